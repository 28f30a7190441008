import JvmDerived
import JvmDerived.Pilot.@@N@@Statement
import JvmDerived.Pilot.@@N@@Code
set_option linter.unusedVariables false
set_option linter.unusedSimpArgs false
namespace Jvm.RoadKit
open Sem ClassFile Op Lib Jvm.Stand Jvm.Free Jvm.LawKit
section New
variable {p : Program} {l : Launch} {e : Env} {R : Room} {s : State} {m : MethodId} {args : Array Value} {below : List Frame} {meth : Method} {c : Code} {T : State} {locs : List Loc} {cells slots : Nat}
theorem retI (X : Stand p l e R s m args below meth c T locs cells slots) (hx : p.tables.exec = Jvm.exec) {pc : Nat} {Ls : Array Slot} {z : Int32} {rest : List Value} (hret : meth.sig.returnType = some .int) (hd : decode c.code pc = .ok (.ireturn, 1)) {fs : List Frame}
    (hl : ∀ (f : JFrame) (acts : List Action), f.method = m → f.locked = none → f.entered = [] → (doReturn e (T.setTop f) acts (some (.int z))).1 = T.setFrames fs) : Steps p.tables e below (T.setTop (mkF m pc Ls (.int z :: rest))) (T.setFrames fs) := by
  have hm' : T.vm.method? m = some meth := X.method'
  have hn : narrow .int (.int z) = .int z := rfl
  show Steps p.tables e below (T.setTop { method := m, pc := pc, locals := Ls, stack := _ :: rest, locked := none }) _
  jvm_step X.here [X.here.top, hx, hd, hm', hret, hn]
  first | (intro acts; rw [hl _ acts rfl rfl rfl]) | rw [hl _ _ rfl rfl rfl]
  exact Steps.refl _
end New
end Jvm.RoadKit
namespace Jvm.Pilot.@@N@@
open Jvm Jvm.ClassFile Sem Op Lib Jvm.Free Jvm.Stand Jvm.LawKit Jvm.RoadKit Bundle Jvm.Pilot.@@N@@.Jvm.D
set_option maxRecDepth 65536
set_option maxHeartbeats 40000000
abbrev c_0 : ByteArray := jdk_17_method_104_code
abbrev c_1 : ByteArray := jdk_17_method_106_code
abbrev c_2 : ByteArray := jdk_17_method_108_code
abbrev c_3 : ByteArray := jdk_17_method_113_code
abbrev c_4 : ByteArray := jdk_17_method_119_code
abbrev c_5 : ByteArray := jdk_17_method_121_code
abbrev c_6 : ByteArray := jdk_17_method_122_code
abbrev c_7 : ByteArray := jdk_17_method_132_code
abbrev c_8 : ByteArray := jdk_17_method_133_code
abbrev c_9 : ByteArray := jdk_17_method_134_code
abbrev c_10 : ByteArray := jdk_17_method_1_code
abbrev c_11 : ByteArray := jdk_17_method_20_code
abbrev c_12 : ByteArray := jdk_17_method_21_code
abbrev c_13 : ByteArray := jdk_17_method_24_code
abbrev c_14 : ByteArray := jdk_17_method_26_code
abbrev c_15 : ByteArray := jdk_17_method_58_code
abbrev c_16 : ByteArray := jdk_17_method_59_code
abbrev c_17 : ByteArray := jdk_17_method_60_code
abbrev c_18 : ByteArray := jdk_17_method_63_code
abbrev c_19 : ByteArray := jdk_17_method_64_code
abbrev c_20 : ByteArray := jdk_17_method_70_code
abbrev c_21 : ByteArray := jdk_17_method_71_code
abbrev c_22 : ByteArray := jdk_17_method_72_code
abbrev c_23 : ByteArray := jdk_17_method_97_code
abbrev c_24 : ByteArray := jdk_18_method_1_code
abbrev c_25 : ByteArray := jdk_29_method_61_code
abbrev c_26 : ByteArray := jdk_29_method_65_code
abbrev c_27 : ByteArray := jdk_31_method_10_code
abbrev c_28 : ByteArray := jdk_33_method_22_code
abbrev c_29 : ByteArray := jdk_33_method_27_code
abbrev c_30 : ByteArray := jdk_33_method_47_code
abbrev c_31 : ByteArray := jdk_35_method_42_code
abbrev c_32 : ByteArray := jdk_35_method_48_code
abbrev c_33 : ByteArray := jdk_35_method_57_code
abbrev c_34 : ByteArray := method_2_code
abbrev c_35 : ByteArray := object_method_1_code
abbrev c_36 : ByteArray := prog_24_method_3_code
abbrev c_37 : ByteArray := prog_7_method_1_code
abbrev c_38 : ByteArray := prog_7_method_2_code
abbrev c_39 : ByteArray := prog_7_method_7_code
abbrev c_40 : ByteArray := prog_8_method_1_code
abbrev c_41 : ByteArray := prog_8_method_2_code
abbrev c_42 : ByteArray := prog_8_method_3_code
abbrev m_0 : MethodName := (⟨"java/math/BigDecimal", "valueOf", "(JI)Ljava/math/BigDecimal;"⟩ : MethodName)
abbrev m_1 : MethodName := (⟨"java/math/BigDecimal", "equals", "(Ljava/lang/Object;)Z"⟩ : MethodName)
abbrev m_2 : MethodName := (⟨"com/example/tipple/tipple/Arithmetic$RunningSum", "value", "()Ljava/math/BigDecimal;"⟩ : MethodName)
abbrev m_3 : MethodName := (⟨"com/example/tipple/tipple/Arithmetic$RunningSum", "add", "(Ljava/math/BigDecimal;)V"⟩ : MethodName)
abbrev m_4 : MethodName := (⟨"java/lang/Integer", "intValue", "()I"⟩ : MethodName)
abbrev m_5 : MethodName := (⟨"java/math/BigDecimal", "signum", "()I"⟩ : MethodName)
abbrev m_6 : MethodName := (⟨"java/math/BigDecimal", "<init>", "(Ljava/math/BigInteger;JII)V"⟩ : MethodName)
abbrev m_7 : MethodName := (⟨"com/example/tipple/tipple/Arithmetic", "carried", "(Ljava/math/BigDecimal;)Ljava/math/BigDecimal;"⟩ : MethodName)
abbrev m_8 : MethodName := (⟨"com/example/tipple/tipple/RunningSumValuePinLaw", "pow10", "(I)J"⟩ : MethodName)
abbrev m_9 : MethodName := (⟨"java/lang/Long", "compare", "(JJ)I"⟩ : MethodName)
abbrev m_10 : MethodName := (⟨"java/math/BigDecimal", "precision", "()I"⟩ : MethodName)
abbrev m_11 : MethodName := (⟨"java/math/BigDecimal", "add", "(Ljava/math/BigDecimal;)Ljava/math/BigDecimal;"⟩ : MethodName)
abbrev m_12 : MethodName := (⟨"com/example/tipple/tipple/Arithmetic", "<init>", "(Ljava/lang/Integer;)V"⟩ : MethodName)
abbrev m_13 : MethodName := (⟨"java/math/BigDecimal", "longMultiplyPowerTen", "(JI)J"⟩ : MethodName)
abbrev m_14 : MethodName := (⟨"java/math/BigDecimal", "add", "(JJI)Ljava/math/BigDecimal;"⟩ : MethodName)
abbrev m_15 : MethodName := (⟨"java/lang/Math", "abs", "(J)J"⟩ : MethodName)
abbrev m_16 : MethodName := (⟨"java/lang/Math", "max", "(II)I"⟩ : MethodName)
abbrev m_17 : MethodName := (⟨"java/math/BigDecimal", "checkScale", "(JJ)I"⟩ : MethodName)
abbrev m_18 : MethodName := (⟨"java/math/BigDecimal", "longCompareMagnitude", "(JJ)I"⟩ : MethodName)
abbrev m_19 : MethodName := (⟨"java/math/BigDecimal", "commonNeedIncrement", "(IIIZ)Z"⟩ : MethodName)
abbrev m_20 : MethodName := (⟨"java/math/BigDecimal", "needIncrement", "(JIIJJ)Z"⟩ : MethodName)
abbrev m_21 : MethodName := (⟨"java/lang/Integer", "numberOfLeadingZeros", "(I)I"⟩ : MethodName)
abbrev m_22 : MethodName := (⟨"java/lang/Long", "numberOfLeadingZeros", "(J)I"⟩ : MethodName)
abbrev m_23 : MethodName := (⟨"java/math/BigDecimal", "scale", "()I"⟩ : MethodName)
abbrev m_24 : MethodName := (⟨"java/util/Objects", "requireNonNull", "(Ljava/lang/Object;)Ljava/lang/Object;"⟩ : MethodName)
abbrev m_25 : MethodName := (⟨"java/lang/Number", "<init>", "()V"⟩ : MethodName)
abbrev m_26 : MethodName := (⟨"java/math/BigDecimal", "zeroValueOf", "(I)Ljava/math/BigDecimal;"⟩ : MethodName)
abbrev m_27 : MethodName := (⟨"java/math/BigDecimal", "setScale", "(II)Ljava/math/BigDecimal;"⟩ : MethodName)
abbrev m_28 : MethodName := (⟨"java/math/BigDecimal", "setScale", "(ILjava/math/RoundingMode;)Ljava/math/BigDecimal;"⟩ : MethodName)
abbrev m_29 : MethodName := (⟨"java/math/BigDecimal", "compareTo", "(Ljava/math/BigDecimal;)I"⟩ : MethodName)
abbrev m_30 : MethodName := (⟨"com/example/tipple/tipple/Arithmetic", "sum", "(Ljava/math/BigDecimal;Ljava/math/BigDecimal;)Ljava/math/BigDecimal;"⟩ : MethodName)
abbrev m_31 : MethodName := (⟨"com/example/tipple/tipple/Arithmetic$RunningSum", "<init>", "(Lcom/example/tipple/tipple/Arithmetic;)V"⟩ : MethodName)
abbrev m_32 : MethodName := (⟨"java/lang/Long", "signum", "(J)I"⟩ : MethodName)
abbrev m_33 : MethodName := (⟨"java/math/BigDecimal", "checkScale", "(J)I"⟩ : MethodName)
abbrev m_34 : MethodName := (⟨"java/math/BigDecimal", "add", "(JJ)J"⟩ : MethodName)
abbrev m_35 : MethodName := (⟨"java/math/BigDecimal", "longDigitLength", "(J)I"⟩ : MethodName)
abbrev m_36 : MethodName := (⟨"java/math/BigDecimal", "valueOf", "(J)Ljava/math/BigDecimal;"⟩ : MethodName)
abbrev m_37 : MethodName := (⟨"java/math/BigDecimal", "add", "(JIJI)Ljava/math/BigDecimal;"⟩ : MethodName)
abbrev m_38 : MethodName := (⟨"java/math/BigDecimal", "divideAndRound", "(JJIII)Ljava/math/BigDecimal;"⟩ : MethodName)
abbrev m_39 : MethodName := (⟨"com/example/tipple/tipple/Decimals", "round", "(Ljava/math/BigDecimal;I)Ljava/math/BigDecimal;"⟩ : MethodName)
abbrev m_40 : MethodName := (⟨"java/math/BigDecimal", "compareMagnitude", "(Ljava/math/BigDecimal;)I"⟩ : MethodName)
abbrev m_41 : MethodName := (⟨"java/lang/Integer", "valueOf", "(I)Ljava/lang/Integer;"⟩ : MethodName)
theorem own_w {a0 : Array Value} {Z : State} (hw : ∀ d ∈ tables_1, d.before a0 Z = true) (i : Nat) {d : Jvm.Cond} (h : tables_1[i]? = some d) : d.before a0 Z = true := hw _ (List.mem_of_getElem? h)
def own_u (x k : Int32) : Int32 := ((x.toUInt32 >>> (k &&& 31).toUInt32).toInt32)
def own_p (i : Nat) : Int64 := Int64.ofNat (10 ^ i)
def own_t (i : Nat) : Int64 := Int64.ofNat (9223372036854775807 / 10 ^ i)
def own_pw (k : Int32) : Int64 := own_p k.toNatClampNeg
def own_th (k : Int32) : Int64 := own_t k.toNatClampNeg
def own_BD (Z : State) (h : Heap) (b : Addr) (sc : Int32) (ic : Int64) : Prop := Exa Z h b "java/math/BigDecimal" ∧ Fld Z h b "java/math/BigDecimal" "scale" "I" (.int sc) ∧ Fld Z h b "java/math/BigDecimal" "intCompact" "J" (.long ic)
def own_PR (Z : State) (h : Heap) (b : Addr) (pr : Int32) : Prop := Fld Z h b "java/math/BigDecimal" "precision" "I" (.int pr)
def own_z (i : Nat) : Int32 := if i = 10 then 2 else 1
def own_J (Z : State) : Prop :=
  (Sta Z Z.heap "java/lang/Integer$IntegerCache" "high" "I" (.int (127 : Int32))) ∧
  (∃ (a : Addr) (c : Cell), Sta Z Z.heap "java/lang/Integer$IntegerCache" "cache" "[Ljava/lang/Integer;" (.ref a) ∧ Bxs Z a c "java/lang/Integer" "I" (256 : Int32) (fun j => .int (j - 128))) ∧
  (∃ (a : Addr) (c : Cell), Sta Z Z.heap "java/math/BigDecimal" "LONG_TEN_POWERS_TABLE" "[J" (.ref a) ∧ Arr Z Z.heap a c .long ∧ c.slots.size = 19 ∧ ∀ i, i < 19 → c.slots[i]? = some (.long (own_p i))) ∧
  (∃ (a : Addr) (c : Cell), Sta Z Z.heap "java/math/BigDecimal" "THRESHOLDS_TABLE" "[J" (.ref a) ∧ Arr Z Z.heap a c .long ∧ c.slots.size = 19 ∧ ∀ i, i < 19 → c.slots[i]? = some (.long (own_t i))) ∧
  (∃ (a : Addr) (c : Cell), Sta Z Z.heap "java/math/BigDecimal" "ZERO_THROUGH_TEN" "[Ljava/math/BigDecimal;" (.ref a) ∧ Arr Z Z.heap a c (.object "java/math/BigDecimal") ∧ c.slots.size = 11 ∧ ∀ i, i < 11 → ∃ b, c.slots[i]? = some (.ref b) ∧ own_BD Z Z.heap b 0 (Int64.ofNat i) ∧ own_PR Z Z.heap b (own_z i)) ∧
  (∃ (a : Addr) (c : Cell), Sta Z Z.heap "java/math/BigDecimal" "ZERO_SCALED_BY" "[Ljava/math/BigDecimal;" (.ref a) ∧ Arr Z Z.heap a c (.object "java/math/BigDecimal") ∧ c.slots.size = 16 ∧ ∀ i, i < 16 → ∃ b, c.slots[i]? = some (.ref b) ∧ own_BD Z Z.heap b (Int32.ofNat i) 0) ∧
  (∃ b, Sta Z Z.heap "java/math/BigDecimal" "ZERO" "Ljava/math/BigDecimal;" (.ref b) ∧ own_BD Z Z.heap b 0 0) ∧
  (∃ b, Sta Z Z.heap "java/math/BigInteger" "ZERO" "Ljava/math/BigInteger;" (.ref b)) ∧
  (∃ b, Sta Z Z.heap "java/math/RoundingMode" "HALF_UP" "Ljava/math/RoundingMode;" (.ref b) ∧ Fld Z Z.heap b "java/math/RoundingMode" "oldMode" "I" (.int (4 : Int32))) ∧
  (Sta Z Z.heap "java/math/BigDecimal" "$assertionsDisabled" "Z" (.int (1 : Int32)))
theorem own_J.high {Z : State} (J : own_J Z) : Sta Z Z.heap "java/lang/Integer$IntegerCache" "high" "I" (.int (127 : Int32)) := J.1
theorem own_J.cache {Z : State} (J : own_J Z) : ∃ (a : Addr) (c : Cell), Sta Z Z.heap "java/lang/Integer$IntegerCache" "cache" "[Ljava/lang/Integer;" (.ref a) ∧ Bxs Z a c "java/lang/Integer" "I" (256 : Int32) (fun j => .int (j - 128)) := J.2.1
theorem own_J.ten {Z : State} (J : own_J Z) : ∃ (a : Addr) (c : Cell), Sta Z Z.heap "java/math/BigDecimal" "LONG_TEN_POWERS_TABLE" "[J" (.ref a) ∧ Arr Z Z.heap a c .long ∧ c.slots.size = 19 ∧ ∀ i, i < 19 → c.slots[i]? = some (.long (own_p i)) := J.2.2.1
theorem own_J.thr {Z : State} (J : own_J Z) : ∃ (a : Addr) (c : Cell), Sta Z Z.heap "java/math/BigDecimal" "THRESHOLDS_TABLE" "[J" (.ref a) ∧ Arr Z Z.heap a c .long ∧ c.slots.size = 19 ∧ ∀ i, i < 19 → c.slots[i]? = some (.long (own_t i)) := J.2.2.2.1
theorem own_J.ztt {Z : State} (J : own_J Z) : ∃ (a : Addr) (c : Cell), Sta Z Z.heap "java/math/BigDecimal" "ZERO_THROUGH_TEN" "[Ljava/math/BigDecimal;" (.ref a) ∧ Arr Z Z.heap a c (.object "java/math/BigDecimal") ∧ c.slots.size = 11 ∧ ∀ i, i < 11 → ∃ b, c.slots[i]? = some (.ref b) ∧ own_BD Z Z.heap b 0 (Int64.ofNat i) ∧ own_PR Z Z.heap b (own_z i) := J.2.2.2.2.1
theorem own_J.zsb {Z : State} (J : own_J Z) : ∃ (a : Addr) (c : Cell), Sta Z Z.heap "java/math/BigDecimal" "ZERO_SCALED_BY" "[Ljava/math/BigDecimal;" (.ref a) ∧ Arr Z Z.heap a c (.object "java/math/BigDecimal") ∧ c.slots.size = 16 ∧ ∀ i, i < 16 → ∃ b, c.slots[i]? = some (.ref b) ∧ own_BD Z Z.heap b (Int32.ofNat i) 0 := J.2.2.2.2.2.1
theorem own_J.zero {Z : State} (J : own_J Z) : ∃ b, Sta Z Z.heap "java/math/BigDecimal" "ZERO" "Ljava/math/BigDecimal;" (.ref b) ∧ own_BD Z Z.heap b 0 0 := J.2.2.2.2.2.2.1
theorem own_J.bizero {Z : State} (J : own_J Z) : ∃ b, Sta Z Z.heap "java/math/BigInteger" "ZERO" "Ljava/math/BigInteger;" (.ref b) := J.2.2.2.2.2.2.2.1
theorem own_J.half {Z : State} (J : own_J Z) : ∃ b, Sta Z Z.heap "java/math/RoundingMode" "HALF_UP" "Ljava/math/RoundingMode;" (.ref b) ∧ Fld Z Z.heap b "java/math/RoundingMode" "oldMode" "I" (.int (4 : Int32)) := J.2.2.2.2.2.2.2.2.1
theorem own_J.asrt {Z : State} (J : own_J Z) : Sta Z Z.heap "java/math/BigDecimal" "$assertionsDisabled" "Z" (.int (1 : Int32)) := J.2.2.2.2.2.2.2.2.2
theorem own_in {c : Cell} {j : Int32} {N : Nat} (S : c.slots.size = N) (h0 : 0 ≤ j.toInt) (h1 : j.toInt < N) : ¬ (j < 0 ∨ c.slots.size ≤ j.toNatClampNeg) := by
  rw [S, Int32.lt_iff_toInt_lt]
  have e0 : (0 : Int32).toInt = 0 := rfl
  simp only [Int32.toNatClampNeg]
  omega
theorem own_cl {j : Int32} {N : Nat} (h0 : 0 ≤ j.toInt) (h1 : j.toInt < N) : j.toNatClampNeg < N := by
  simp only [Int32.toNatClampNeg]
  omega
theorem own_lcmp_self (x : Int64) : lcmpW x x = 0 := (lw_eq x x).mpr rfl
theorem own_k8 {k : Int32} (h0 : 0 ≤ k.toInt) (h1 : k.toInt ≤ 7) : k = 0 ∨ k = 1 ∨ k = 2 ∨ k = 3 ∨ k = 4 ∨ k = 5 ∨ k = 6 ∨ k = 7 := by
  simp only [← Int32.toInt_inj, show (0 : Int32).toInt = 0 from rfl, show (1 : Int32).toInt = 1 from rfl, show (2 : Int32).toInt = 2 from rfl, show (3 : Int32).toInt = 3 from rfl, show (4 : Int32).toInt = 4 from rfl, show (5 : Int32).toInt = 5 from rfl, show (6 : Int32).toInt = 6 from rfl, show (7 : Int32).toInt = 7 from rfl]
  omega
def own_abs (x : Int64) : Int64 := if lcmpW x (0 : Int64) < (0 : Int32) then (-x) else x
theorem own_abs_i (x : Int64) : -9223372036854775808 < x.toInt → (own_abs x).toInt = (x.toInt.natAbs : Int) := by
  intro h
  have e0 : (0 : Int64).toInt = 0 := rfl
  by_cases q : lcmpW x (0 : Int64) < (0 : Int32)
  · have q' := q
    rw [lw_lt, Int64.lt_iff_toInt_lt] at q'
    rw [own_abs, if_pos q]
    have := c_lneg x
    have := Int64.toInt_lt (-x); have := Int64.le_toInt (-x)
    omega
  · have q' := q
    rw [lw_lt, Int64.lt_iff_toInt_lt] at q'
    rw [own_abs, if_neg q]
    omega
def own_max (a b : Int32) : Int32 := if a < b then b else a
def own_lc (x y : Int64) : Int32 := if lcmpW x y < (0 : Int32) then (-1 : Int32) else if lcmpW x y = (0 : Int32) then (0 : Int32) else (1 : Int32)
theorem d18_0 : decode c_25 0 = .ok (.lload_n 0, 1) := by decide +kernel
theorem d18_1 : decode c_25 1 = .ok (.lconst 0, 1) := by decide +kernel
theorem d18_2 : decode c_25 2 = .ok (.lcmp, 1) := by decide +kernel
theorem d18_3 : decode c_25 3 = .ok (.ifCond .ge 8, 3) := by decide +kernel
theorem d18_6 : decode c_25 6 = .ok (.lload_n 0, 1) := by decide +kernel
theorem d18_7 : decode c_25 7 = .ok (.lneg, 1) := by decide +kernel
theorem d18_8 : decode c_25 8 = .ok (.goto 4, 3) := by decide +kernel
theorem d18_12 : decode c_25 12 = .ok (.lreturn, 1) := by decide +kernel
theorem d18_11 : decode c_25 11 = .ok (.lload_n 0, 1) := by decide +kernel
theorem ef_rmAbs (m : MethodId) (x0 : Int64) : entryFrame m #[(.long x0)] 2 = mkF m 0 #[.val (.long x0), .second] [] := by first | (simp [entryFrame, mkF, argsToLocals, Value.category]; done) | rfl
def QrmAbs (Z : State) (x : Int64)  (h0 : Heap) (n0 : Nat) (v : Option Value) (h : Heap) (L : List Loc) : Prop := v = some (.long (own_abs x)) ∧ Fr n0 L ∧ h = h0
theorem rmAbs (l : Launch) (Z : State) (a0 : Array Value) (hw : ∀ d ∈ tables_1, d.before a0 Z = true) (ws : List Jvm.Cond) (x : Int64)  (h0 : Heap) (n0 : Nat) (Z0 : n0 ≤ h0.size)  :
    MetFree l m_15 (head1 (Jvm.Cond.code m_15 jdk_29_method_61_code 2 (some .long) :: ws) ({ frames := 0, cells := 0, slots := 0, locals := 0 } : Room)) (fun a U => a = #[(.long x)] ∧ Z.Warmed39 U.vm ∧ U.heap = h0) (fun _ _ _ _ _ => True) (fun _ U o U' => ∃ v L, o = .returned v ∧ QrmAbs Z x  h0 n0 v U'.heap L ∧ FrameEnd U o U' L ({ frames := 0, cells := 0, slots := 0, locals := 0 } : Room).cells ({ frames := 0, cells := 0, slots := 0, locals := 0 } : Room).slots) := by
  refine MetFree.of_bodySF (Jvm.Free.JP.mathPlain rfl (by decide +kernel)) hisR ?_
  intro p e s m args below meth c s₁ Bd hml0 hP hK
  obtain ⟨rfl, hZ, hh⟩ := hP
  have hx := Bd.exec
  have hby := Bd.bytes
  have hml : c.maxLocals = 2 := hml0
  have hown : s.vm.findClass "java/lang/Math" = some m.cls := findClass_of_methodNamed Bd.named
  have hnm := (name_of_methodNamed Bd.named Bd.method).1
  have X0 : Stand p l e ({ frames := 0, cells := 0, slots := 0, locals := 0 } : Room) s m #[(.long x)] below meth c s₁ [] 0 0 := Stand.of_body Bd
  have e0 : s₁.heap = h0 := by rw [← hh, Bd.state]; rfl
  have N0 := Fr.nil n0
  have pre0 : ∀ t, Steps p.tables e below (s₁.setTop (mkF m 0 #[.val (.long x), .second] [])) t → Steps p.tables e below (s₁.setTop (entryFrame m #[(.long x)] 2)) t := fun t k => castTop (ef_rmAbs m x) k
  obtain ⟨fs, hr, hrun, hended, hW, hsame⟩ := X0.leave (v := some (.long (if (lcmpW x (0 : Int64)) < (0 : Int32) then (-x) else x))) (fun h => by rw [Bd.returns] at h; cases h)
  refine ⟨_, _, pre0 _ ?_, hrun, hended, _, _, rfl, ?_, ⟨_, rfl⟩, hW, hsame.mono (by decide) (by decide)⟩
  · show Steps p.tables e below (s₁.setTop (mkF m 0 #[.val (.long x), .second] [])) _
    refine XS.lloadN X0.here hx rfl (hb hby d18_0) rfl ?_
    refine XS.lconst X0.here hx rfl (hb hby d18_1) ?_
    refine XS.lcmp X0.here hx rfl (hb hby d18_2) rfl ?_
    by_cases ht0 : (lcmpW x (0 : Int64)) < (0 : Int32)
    · rw [if_pos ht0] at hr
      show Steps p.tables e below (s₁.setTop (mkF m 3 #[.val (.long x), .second] [(.int (lcmpW x (0 : Int64)))])) _
      refine XS.ifNo X0.here hx rfl (hb hby d18_3) rfl ((if0 _ _).trans (tlt (ht0 : (lcmpW x (0 : Int64)) < (0 : Int32))).2.1) ?_
      show Steps p.tables e below (s₁.setTop (mkF m 6 #[.val (.long x), .second] [])) _
      refine XS.lloadN X0.here hx rfl (hb hby d18_6) rfl ?_
      show Steps p.tables e below (s₁.setTop (mkF m 7 #[.val (.long x), .second] [(.long x)])) _
      refine XS.lneg X0.here hx rfl (hb hby d18_7) rfl ?_
      show Steps p.tables e below (s₁.setTop (mkF m 8 #[.val (.long x), .second] [(.long (-x))])) _
      refine XS.goto X0.here hx rfl (pc0 := 8) (pc' := 12) rfl (hb hby d18_8) (by decide) (by decide) ?_
      show Steps p.tables e below (s₁.setTop (mkF m 12 #[.val (.long x), .second] [(.long (-x))])) _
      exact X0.lreturnOut hx Bd.returns (hb hby d18_12) hr
    · rw [if_neg ht0] at hr
      show Steps p.tables e below (s₁.setTop (mkF m 3 #[.val (.long x), .second] [(.int (lcmpW x (0 : Int64)))])) _
      refine XS.ifYes X0.here hx rfl (pc0 := 3) (pc' := 11) rfl (hb hby d18_3) rfl ((if0 _ _).trans (flt (ht0 : ¬ ((lcmpW x (0 : Int64)) < (0 : Int32)))).2.1) (by decide) (by decide) ?_
      show Steps p.tables e below (s₁.setTop (mkF m 11 #[.val (.long x), .second] [])) _
      refine XS.lloadN X0.here hx rfl (hb hby d18_11) rfl ?_
      show Steps p.tables e below (s₁.setTop (mkF m 12 #[.val (.long x), .second] [(.long x)])) _
      exact X0.lreturnOut hx Bd.returns (hb hby d18_12) hr
  · show QrmAbs Z x  h0 n0 _ s₁.heap _
    rw [e0]
    exact ⟨rfl, N0, rfl⟩
theorem d24_0 : decode c_26 0 = .ok (.iload_n 0, 1) := by decide +kernel
theorem d24_1 : decode c_26 1 = .ok (.iload_n 1, 1) := by decide +kernel
theorem d24_2 : decode c_26 2 = .ok (.if_icmp .lt 7, 3) := by decide +kernel
theorem d24_9 : decode c_26 9 = .ok (.iload_n 1, 1) := by decide +kernel
theorem d24_10 : decode c_26 10 = .ok (.ireturn, 1) := by decide +kernel
theorem d24_5 : decode c_26 5 = .ok (.iload_n 0, 1) := by decide +kernel
theorem d24_6 : decode c_26 6 = .ok (.goto 4, 3) := by decide +kernel
theorem ef_rmMax (m : MethodId) (x0 : Int32) (x1 : Int32) : entryFrame m #[(.int x0), (.int x1)] 2 = mkF m 0 #[.val (.int x0), .val (.int x1)] [] := by first | (simp [entryFrame, mkF, argsToLocals, Value.category]; done) | rfl
def QrmMax (Z : State) (p1 : Int32) (p2 : Int32)  (h0 : Heap) (n0 : Nat) (v : Option Value) (h : Heap) (L : List Loc) : Prop := v = some (.int (own_max p1 p2)) ∧ Fr n0 L ∧ h = h0
theorem rmMax (l : Launch) (Z : State) (a0 : Array Value) (hw : ∀ d ∈ tables_1, d.before a0 Z = true) (ws : List Jvm.Cond) (p1 : Int32) (p2 : Int32)  (h0 : Heap) (n0 : Nat) (Z0 : n0 ≤ h0.size)  :
    MetFree l m_16 (head1 (Jvm.Cond.code m_16 jdk_29_method_65_code 2 (some .int) :: ws) ({ frames := 0, cells := 0, slots := 0, locals := 0 } : Room)) (fun a U => a = #[(.int p1), (.int p2)] ∧ Z.Warmed39 U.vm ∧ U.heap = h0) (fun _ _ _ _ _ => True) (fun _ U o U' => ∃ v L, o = .returned v ∧ QrmMax Z p1 p2  h0 n0 v U'.heap L ∧ FrameEnd U o U' L ({ frames := 0, cells := 0, slots := 0, locals := 0 } : Room).cells ({ frames := 0, cells := 0, slots := 0, locals := 0 } : Room).slots) := by
  refine MetFree.of_bodySF (Jvm.Free.JP.mathPlain rfl (by decide +kernel)) hisR ?_
  intro p e s m args below meth c s₁ Bd hml0 hP hK
  obtain ⟨rfl, hZ, hh⟩ := hP
  have hx := Bd.exec
  have hby := Bd.bytes
  have hml : c.maxLocals = 2 := hml0
  have hown : s.vm.findClass "java/lang/Math" = some m.cls := findClass_of_methodNamed Bd.named
  have hnm := (name_of_methodNamed Bd.named Bd.method).1
  have X0 : Stand p l e ({ frames := 0, cells := 0, slots := 0, locals := 0 } : Room) s m #[(.int p1), (.int p2)] below meth c s₁ [] 0 0 := Stand.of_body Bd
  have e0 : s₁.heap = h0 := by rw [← hh, Bd.state]; rfl
  have N0 := Fr.nil n0
  have pre0 : ∀ t, Steps p.tables e below (s₁.setTop (mkF m 0 #[.val (.int p1), .val (.int p2)] [])) t → Steps p.tables e below (s₁.setTop (entryFrame m #[(.int p1), (.int p2)] 2)) t := fun t k => castTop (ef_rmMax m p1 p2) k
  obtain ⟨fs, hr, hrun, hended, hW, hsame⟩ := X0.leave (v := some (.int (if p1 < p2 then p2 else p1))) (fun h => by rw [Bd.returns] at h; cases h)
  refine ⟨_, _, pre0 _ ?_, hrun, hended, _, _, rfl, ?_, ⟨_, rfl⟩, hW, hsame.mono (by decide) (by decide)⟩
  · show Steps p.tables e below (s₁.setTop (mkF m 0 #[.val (.int p1), .val (.int p2)] [])) _
    refine XS.iloadN X0.here hx rfl (hb hby d24_0) rfl ?_
    refine XS.iloadN X0.here hx rfl (hb hby d24_1) rfl ?_
    by_cases ht0 : p1 < p2
    · rw [if_pos ht0] at hr
      show Steps p.tables e below (s₁.setTop (mkF m 2 #[.val (.int p1), .val (.int p2)] [(.int p2), (.int p1)])) _
      refine XS.icmpYes X0.here hx rfl (pc0 := 2) (pc' := 9) rfl (hb hby d24_2) rfl (tlt (ht0 : p1 < p2)).1 (by decide) (by decide) ?_
      show Steps p.tables e below (s₁.setTop (mkF m 9 #[.val (.int p1), .val (.int p2)] [])) _
      refine XS.iloadN X0.here hx rfl (hb hby d24_9) rfl ?_
      show Steps p.tables e below (s₁.setTop (mkF m 10 #[.val (.int p1), .val (.int p2)] [(.int p2)])) _
      exact retI X0 hx Bd.returns (hb hby d24_10) hr
    · rw [if_neg ht0] at hr
      show Steps p.tables e below (s₁.setTop (mkF m 2 #[.val (.int p1), .val (.int p2)] [(.int p2), (.int p1)])) _
      refine XS.icmpNo X0.here hx rfl (hb hby d24_2) rfl (flt (ht0 : ¬ (p1 < p2))).1 ?_
      show Steps p.tables e below (s₁.setTop (mkF m 5 #[.val (.int p1), .val (.int p2)] [])) _
      refine XS.iloadN X0.here hx rfl (hb hby d24_5) rfl ?_
      show Steps p.tables e below (s₁.setTop (mkF m 6 #[.val (.int p1), .val (.int p2)] [(.int p1)])) _
      refine XS.goto X0.here hx rfl (pc0 := 6) (pc' := 10) rfl (hb hby d24_6) (by decide) (by decide) ?_
      show Steps p.tables e below (s₁.setTop (mkF m 10 #[.val (.int p1), .val (.int p2)] [(.int p1)])) _
      exact retI X0 hx Bd.returns (hb hby d24_10) hr
  · show QrmMax Z p1 p2  h0 n0 _ s₁.heap _
    rw [e0]
    exact ⟨rfl, N0, rfl⟩
theorem d35_0 : decode c_31 0 = .ok (.lload_n 0, 1) := by decide +kernel
theorem d35_1 : decode c_31 1 = .ok (.lload_n 2, 1) := by decide +kernel
theorem d35_2 : decode c_31 2 = .ok (.lcmp, 1) := by decide +kernel
theorem d35_3 : decode c_31 3 = .ok (.ifCond .ge 7, 3) := by decide +kernel
theorem d35_6 : decode c_31 6 = .ok (.iconst (-1), 1) := by decide +kernel
theorem d35_7 : decode c_31 7 = .ok (.goto 14, 3) := by decide +kernel
theorem d35_21 : decode c_31 21 = .ok (.ireturn, 1) := by decide +kernel
theorem d35_10 : decode c_31 10 = .ok (.lload_n 0, 1) := by decide +kernel
theorem d35_11 : decode c_31 11 = .ok (.lload_n 2, 1) := by decide +kernel
theorem d35_12 : decode c_31 12 = .ok (.lcmp, 1) := by decide +kernel
theorem d35_13 : decode c_31 13 = .ok (.ifCond .ne 7, 3) := by decide +kernel
theorem d35_16 : decode c_31 16 = .ok (.iconst 0, 1) := by decide +kernel
theorem d35_17 : decode c_31 17 = .ok (.goto 4, 3) := by decide +kernel
theorem d35_20 : decode c_31 20 = .ok (.iconst 1, 1) := by decide +kernel
theorem pn_java_lang_Long : plainName "java/lang/Long" = true := by first | (simp [plainName, overriddenIn]; done) | decide +kernel
theorem ef_rmLcmp (m : MethodId) (x0 : Int64) (x1 : Int64) : entryFrame m #[(.long x0), (.long x1)] 4 = mkF m 0 #[.val (.long x0), .second, .val (.long x1), .second] [] := by first | (simp [entryFrame, mkF, argsToLocals, Value.category]; done) | rfl
def QrmLcmp (Z : State) (x : Int64) (y : Int64)  (h0 : Heap) (n0 : Nat) (v : Option Value) (h : Heap) (L : List Loc) : Prop := v = some (.int (own_lc x y)) ∧ Fr n0 L ∧ h = h0
theorem rmLcmp (l : Launch) (Z : State) (a0 : Array Value) (hw : ∀ d ∈ tables_1, d.before a0 Z = true) (ws : List Jvm.Cond) (x : Int64) (y : Int64)  (h0 : Heap) (n0 : Nat) (Z0 : n0 ≤ h0.size)  :
    MetFree l m_9 (head1 (Jvm.Cond.code m_9 jdk_35_method_42_code 4 (some .int) :: ws) ({ frames := 0, cells := 0, slots := 0, locals := 0 } : Room)) (fun a U => a = #[(.long x), (.long y)] ∧ Z.Warmed39 U.vm ∧ U.heap = h0) (fun _ _ _ _ _ => True) (fun _ U o U' => ∃ v L, o = .returned v ∧ QrmLcmp Z x y  h0 n0 v U'.heap L ∧ FrameEnd U o U' L ({ frames := 0, cells := 0, slots := 0, locals := 0 } : Room).cells ({ frames := 0, cells := 0, slots := 0, locals := 0 } : Room).slots) := by
  refine MetFree.of_bodySF (plainFor_of_name pn_java_lang_Long) hisR ?_
  intro p e s m args below meth c s₁ Bd hml0 hP hK
  obtain ⟨rfl, hZ, hh⟩ := hP
  have hx := Bd.exec
  have hby := Bd.bytes
  have hml : c.maxLocals = 4 := hml0
  have hown : s.vm.findClass "java/lang/Long" = some m.cls := findClass_of_methodNamed Bd.named
  have hnm := (name_of_methodNamed Bd.named Bd.method).1
  have X0 : Stand p l e ({ frames := 0, cells := 0, slots := 0, locals := 0 } : Room) s m #[(.long x), (.long y)] below meth c s₁ [] 0 0 := Stand.of_body Bd
  have e0 : s₁.heap = h0 := by rw [← hh, Bd.state]; rfl
  have N0 := Fr.nil n0
  have pre0 : ∀ t, Steps p.tables e below (s₁.setTop (mkF m 0 #[.val (.long x), .second, .val (.long y), .second] [])) t → Steps p.tables e below (s₁.setTop (entryFrame m #[(.long x), (.long y)] 4)) t := fun t k => castTop (ef_rmLcmp m x y) k
  obtain ⟨fs, hr, hrun, hended, hW, hsame⟩ := X0.leave (v := some (.int (if (lcmpW x y) < (0 : Int32) then (-1 : Int32) else (if (lcmpW x y) = (0 : Int32) then (0 : Int32) else (1 : Int32))))) (fun h => by rw [Bd.returns] at h; cases h)
  refine ⟨_, _, pre0 _ ?_, hrun, hended, _, _, rfl, ?_, ⟨_, rfl⟩, hW, hsame.mono (by decide) (by decide)⟩
  · show Steps p.tables e below (s₁.setTop (mkF m 0 #[.val (.long x), .second, .val (.long y), .second] [])) _
    refine XS.lloadN X0.here hx rfl (hb hby d35_0) rfl ?_
    refine XS.lloadN X0.here hx rfl (hb hby d35_1) rfl ?_
    refine XS.lcmp X0.here hx rfl (hb hby d35_2) rfl ?_
    by_cases ht0 : (lcmpW x y) < (0 : Int32)
    · rw [if_pos ht0] at hr
      show Steps p.tables e below (s₁.setTop (mkF m 3 #[.val (.long x), .second, .val (.long y), .second] [(.int (lcmpW x y))])) _
      refine XS.ifNo X0.here hx rfl (hb hby d35_3) rfl ((if0 _ _).trans (tlt (ht0 : (lcmpW x y) < (0 : Int32))).2.1) ?_
      show Steps p.tables e below (s₁.setTop (mkF m 6 #[.val (.long x), .second, .val (.long y), .second] [])) _
      refine XS.iconst X0.here hx rfl (hb hby d35_6) ?_
      show Steps p.tables e below (s₁.setTop (mkF m 7 #[.val (.long x), .second, .val (.long y), .second] [(.int (-1 : Int32))])) _
      refine XS.goto X0.here hx rfl (pc0 := 7) (pc' := 21) rfl (hb hby d35_7) (by decide) (by decide) ?_
      show Steps p.tables e below (s₁.setTop (mkF m 21 #[.val (.long x), .second, .val (.long y), .second] [(.int (-1 : Int32))])) _
      exact retI X0 hx Bd.returns (hb hby d35_21) hr
    · rw [if_neg ht0] at hr
      show Steps p.tables e below (s₁.setTop (mkF m 3 #[.val (.long x), .second, .val (.long y), .second] [(.int (lcmpW x y))])) _
      refine XS.ifYes X0.here hx rfl (pc0 := 3) (pc' := 10) rfl (hb hby d35_3) rfl ((if0 _ _).trans (flt (ht0 : ¬ ((lcmpW x y) < (0 : Int32)))).2.1) (by decide) (by decide) ?_
      refine XS.lloadN X0.here hx rfl (hb hby d35_10) rfl ?_
      refine XS.lloadN X0.here hx rfl (hb hby d35_11) rfl ?_
      refine XS.lcmp X0.here hx rfl (hb hby d35_12) rfl ?_
      by_cases ht1 : (lcmpW x y) = (0 : Int32)
      · rw [if_pos ht1] at hr
        show Steps p.tables e below (s₁.setTop (mkF m 13 #[.val (.long x), .second, .val (.long y), .second] [(.int (lcmpW x y))])) _
        refine XS.ifNo X0.here hx rfl (hb hby d35_13) rfl ((if0 _ _).trans (teq (ht1 : (lcmpW x y) = (0 : Int32))).2) ?_
        show Steps p.tables e below (s₁.setTop (mkF m 16 #[.val (.long x), .second, .val (.long y), .second] [])) _
        refine XS.iconst X0.here hx rfl (hb hby d35_16) ?_
        show Steps p.tables e below (s₁.setTop (mkF m 17 #[.val (.long x), .second, .val (.long y), .second] [(.int (0 : Int32))])) _
        refine XS.goto X0.here hx rfl (pc0 := 17) (pc' := 21) rfl (hb hby d35_17) (by decide) (by decide) ?_
        show Steps p.tables e below (s₁.setTop (mkF m 21 #[.val (.long x), .second, .val (.long y), .second] [(.int (0 : Int32))])) _
        exact retI X0 hx Bd.returns (hb hby d35_21) hr
      · rw [if_neg ht1] at hr
        show Steps p.tables e below (s₁.setTop (mkF m 13 #[.val (.long x), .second, .val (.long y), .second] [(.int (lcmpW x y))])) _
        refine XS.ifYes X0.here hx rfl (pc0 := 13) (pc' := 20) rfl (hb hby d35_13) rfl ((if0 _ _).trans (feq (ht1 : ¬ ((lcmpW x y) = (0 : Int32)))).2) (by decide) (by decide) ?_
        show Steps p.tables e below (s₁.setTop (mkF m 20 #[.val (.long x), .second, .val (.long y), .second] [])) _
        refine XS.iconst X0.here hx rfl (hb hby d35_20) ?_
        show Steps p.tables e below (s₁.setTop (mkF m 21 #[.val (.long x), .second, .val (.long y), .second] [(.int (1 : Int32))])) _
        exact retI X0 hx Bd.returns (hb hby d35_21) hr
  · show QrmLcmp Z x y  h0 n0 _ s₁.heap _
    rw [e0]
    exact ⟨rfl, N0, rfl⟩
def own_sg (x : Int64) : Int32 := (((x >>> ((63 : Int32) &&& 0x3f).toInt64) ||| (((-x).toUInt64 >>> ((63 : Int32) &&& 0x3f).toInt64.toUInt64).toInt64)).toInt32)
theorem d30_0 : decode c_33 0 = .ok (.lload_n 0, 1) := by decide +kernel
theorem d30_1 : decode c_33 1 = .ok (.bipush 63, 2) := by decide +kernel
theorem d30_3 : decode c_33 3 = .ok (.lshr, 1) := by decide +kernel
theorem d30_4 : decode c_33 4 = .ok (.lload_n 0, 1) := by decide +kernel
theorem d30_5 : decode c_33 5 = .ok (.lneg, 1) := by decide +kernel
theorem d30_6 : decode c_33 6 = .ok (.bipush 63, 2) := by decide +kernel
theorem d30_8 : decode c_33 8 = .ok (.lushr, 1) := by decide +kernel
theorem d30_9 : decode c_33 9 = .ok (.lor, 1) := by decide +kernel
theorem d30_10 : decode c_33 10 = .ok (.l2i, 1) := by decide +kernel
theorem d30_11 : decode c_33 11 = .ok (.ireturn, 1) := by decide +kernel
theorem ef_rmSg (m : MethodId) (x0 : Int64) : entryFrame m #[(.long x0)] 2 = mkF m 0 #[.val (.long x0), .second] [] := by first | (simp [entryFrame, mkF, argsToLocals, Value.category]; done) | rfl
def QrmSg (Z : State) (x : Int64)  (h0 : Heap) (n0 : Nat) (v : Option Value) (h : Heap) (L : List Loc) : Prop := v = some (.int (own_sg x)) ∧ Fr n0 L ∧ h = h0
theorem rmSg (l : Launch) (Z : State) (a0 : Array Value) (hw : ∀ d ∈ tables_1, d.before a0 Z = true) (ws : List Jvm.Cond) (x : Int64)  (h0 : Heap) (n0 : Nat) (Z0 : n0 ≤ h0.size)  :
    MetFree l m_32 (head1 (Jvm.Cond.code m_32 jdk_35_method_57_code 2 (some .int) :: ws) ({ frames := 0, cells := 0, slots := 0, locals := 0 } : Room)) (fun a U => a = #[(.long x)] ∧ Z.Warmed39 U.vm ∧ U.heap = h0) (fun _ _ _ _ _ => True) (fun _ U o U' => ∃ v L, o = .returned v ∧ QrmSg Z x  h0 n0 v U'.heap L ∧ FrameEnd U o U' L ({ frames := 0, cells := 0, slots := 0, locals := 0 } : Room).cells ({ frames := 0, cells := 0, slots := 0, locals := 0 } : Room).slots) := by
  refine MetFree.of_bodySF (plainFor_of_name pn_java_lang_Long) hisR ?_
  intro p e s m args below meth c s₁ Bd hml0 hP hK
  obtain ⟨rfl, hZ, hh⟩ := hP
  have hx := Bd.exec
  have hby := Bd.bytes
  have hml : c.maxLocals = 2 := hml0
  have hown : s.vm.findClass "java/lang/Long" = some m.cls := findClass_of_methodNamed Bd.named
  have hnm := (name_of_methodNamed Bd.named Bd.method).1
  have X0 : Stand p l e ({ frames := 0, cells := 0, slots := 0, locals := 0 } : Room) s m #[(.long x)] below meth c s₁ [] 0 0 := Stand.of_body Bd
  have e0 : s₁.heap = h0 := by rw [← hh, Bd.state]; rfl
  have N0 := Fr.nil n0
  have pre0 : ∀ t, Steps p.tables e below (s₁.setTop (mkF m 0 #[.val (.long x), .second] [])) t → Steps p.tables e below (s₁.setTop (entryFrame m #[(.long x)] 2)) t := fun t k => castTop (ef_rmSg m x) k
  obtain ⟨fs, hr, hrun, hended, hW, hsame⟩ := X0.leave (v := some (.int (((x >>> ((63 : Int32) &&& 0x3f).toInt64) ||| (((-x).toUInt64 >>> ((63 : Int32) &&& 0x3f).toInt64.toUInt64).toInt64)).toInt32))) (fun h => by rw [Bd.returns] at h; cases h)
  refine ⟨_, _, pre0 _ ?_, hrun, hended, _, _, rfl, ?_, ⟨_, rfl⟩, hW, hsame.mono (by decide) (by decide)⟩
  · show Steps p.tables e below (s₁.setTop (mkF m 0 #[.val (.long x), .second] [])) _
    refine XS.lloadN X0.here hx rfl (hb hby d30_0) rfl ?_
    refine XS.bipush X0.here hx rfl (hb hby d30_1) ?_
    refine XS.lshr X0.here hx rfl (hb hby d30_3) rfl ?_
    refine XS.lloadN X0.here hx rfl (hb hby d30_4) rfl ?_
    refine XS.lneg X0.here hx rfl (hb hby d30_5) rfl ?_
    refine XS.bipush X0.here hx rfl (hb hby d30_6) ?_
    refine XS.lushr X0.here hx rfl (hb hby d30_8) rfl ?_
    refine XS.lor X0.here hx rfl (hb hby d30_9) rfl ?_
    refine XS.l2i X0.here hx rfl (hb hby d30_10) rfl ?_
    show Steps p.tables e below (s₁.setTop (mkF m 11 #[.val (.long x), .second] [(.int (((x >>> ((63 : Int32) &&& 0x3f).toInt64) ||| (((-x).toUInt64 >>> ((63 : Int32) &&& 0x3f).toInt64.toUInt64).toInt64)).toInt32))])) _
    exact retI X0 hx Bd.returns (hb hby d30_11) hr
  · show QrmSg Z x  h0 n0 _ s₁.heap _
    rw [e0]
    exact ⟨rfl, N0, rfl⟩
theorem d16_0 : decode c_3 0 = .ok (.lload_n 2, 1) := by decide +kernel
theorem d16_1 : decode c_3 1 = .ok (.l2i, 1) := by decide +kernel
theorem d16_2 : decode c_3 2 = .ok (.istore 4, 2) := by decide +kernel
theorem d16_4 : decode c_3 4 = .ok (.iload 4, 2) := by decide +kernel
theorem d16_6 : decode c_3 6 = .ok (.i2l, 1) := by decide +kernel
theorem d16_7 : decode c_3 7 = .ok (.lload_n 2, 1) := by decide +kernel
theorem d16_8 : decode c_3 8 = .ok (.lcmp, 1) := by decide +kernel
theorem d16_9 : decode c_3 9 = .ok (.ifCond .eq 50, 3) := by decide +kernel
theorem d16_59 : decode c_3 59 = .ok (.iload 4, 2) := by decide +kernel
theorem d16_61 : decode c_3 61 = .ok (.ireturn, 1) := by decide +kernel
theorem pn_java_math_BigDecimal : plainName "java/math/BigDecimal" = true := by first | (simp [plainName, overriddenIn]; done) | decide +kernel
theorem ef_rmCs (m : MethodId) (x0 : Int64) (x1 : Int64) : entryFrame m #[(.long x0), (.long x1)] 5 = mkF m 0 #[.val (.long x0), .second, .val (.long x1), .second, .unset] [] := by first | (simp [entryFrame, mkF, argsToLocals, Value.category]; done) | rfl
def QrmCs (Z : State) (y : Int64) (x : Int64)  (h0 : Heap) (n0 : Nat) (v : Option Value) (h : Heap) (L : List Loc) : Prop := v = some (.int x.toInt32) ∧ Fr n0 L ∧ h = h0
theorem rmCs (l : Launch) (Z : State) (a0 : Array Value) (hw : ∀ d ∈ tables_1, d.before a0 Z = true) (ws : List Jvm.Cond) (y : Int64) (x : Int64)  (h0 : Heap) (n0 : Nat) (Z0 : n0 ≤ h0.size) (hc : x.toInt32.toInt64 = x) :
    MetFree l m_17 (head1 (Jvm.Cond.code m_17 jdk_17_method_113_code 5 (some .int) :: ws) ({ frames := 0, cells := 0, slots := 0, locals := 0 } : Room)) (fun a U => a = #[(.long y), (.long x)] ∧ Z.Warmed39 U.vm ∧ U.heap = h0) (fun _ _ _ _ _ => True) (fun _ U o U' => ∃ v L, o = .returned v ∧ QrmCs Z y x  h0 n0 v U'.heap L ∧ FrameEnd U o U' L ({ frames := 0, cells := 0, slots := 0, locals := 0 } : Room).cells ({ frames := 0, cells := 0, slots := 0, locals := 0 } : Room).slots) := by
  refine MetFree.of_bodySF (plainFor_of_name pn_java_math_BigDecimal) hisR ?_
  intro p e s m args below meth c s₁ Bd hml0 hP hK
  obtain ⟨rfl, hZ, hh⟩ := hP
  have hx := Bd.exec
  have hby := Bd.bytes
  have hml : c.maxLocals = 5 := hml0
  have hown : s.vm.findClass "java/math/BigDecimal" = some m.cls := findClass_of_methodNamed Bd.named
  have hnm := (name_of_methodNamed Bd.named Bd.method).1
  have X0 : Stand p l e ({ frames := 0, cells := 0, slots := 0, locals := 0 } : Room) s m #[(.long y), (.long x)] below meth c s₁ [] 0 0 := Stand.of_body Bd
  have e0 : s₁.heap = h0 := by rw [← hh, Bd.state]; rfl
  have N0 := Fr.nil n0
  have pre0 : ∀ t, Steps p.tables e below (s₁.setTop (mkF m 0 #[.val (.long y), .second, .val (.long x), .second, .unset] [])) t → Steps p.tables e below (s₁.setTop (entryFrame m #[(.long y), (.long x)] 5)) t := fun t k => castTop (ef_rmCs m y x) k
  obtain ⟨fs, hr, hrun, hended, hW, hsame⟩ := X0.leave (v := some (.int (x.toInt32))) (fun h => by rw [Bd.returns] at h; cases h) Bd.notSynchronized
  refine ⟨_, _, pre0 _ ?_, hrun, hended, _, _, rfl, ?_, ⟨_, rfl⟩, hW, hsame.mono (by decide) (by decide)⟩
  · show Steps p.tables e below (s₁.setTop (mkF m 0 #[.val (.long y), .second, .val (.long x), .second, .unset] [])) _
    refine XS.lloadN X0.here hx rfl (hb hby d16_0) rfl ?_
    refine XS.l2i X0.here hx rfl (hb hby d16_1) rfl ?_
    refine XS.istore X0.here hx rfl (hb hby d16_2) rfl (l' := #[.val (.long y), .second, .val (.long x), .second, .val (.int (x.toInt32))]) rfl ?_
    refine XS.iload X0.here hx rfl (hb hby d16_4) rfl ?_
    refine XS.i2l X0.here hx rfl (hb hby d16_6) rfl ?_
    refine XS.lloadN X0.here hx rfl (hb hby d16_7) rfl ?_
    refine XS.lcmp X0.here hx rfl (hb hby d16_8) rfl ?_
    refine XS.ifYes X0.here hx rfl (pc0 := 9) (pc' := 59) rfl (hb hby d16_9) rfl ((if0 _ _).trans (teq (by rw [hc]; exact own_lcmp_self x : (lcmpW ((x.toInt32).toInt64) x) = (0 : Int32))).1) (by decide) (by decide) ?_
    refine XS.iload X0.here hx rfl (hb hby d16_59) rfl ?_
    show Steps p.tables e below (s₁.setTop (mkF m 61 #[.val (.long y), .second, .val (.long x), .second, .val (.int (x.toInt32))] [(.int (x.toInt32))])) _
    exact retI X0 hx Bd.returns (hb hby d16_61) hr
  · show QrmCs Z y x  h0 n0 _ s₁.heap _
    rw [e0]
    exact ⟨rfl, N0, rfl⟩
theorem d31_0 : decode c_1 0 = .ok (.lload_n 1, 1) := by decide +kernel
theorem d31_1 : decode c_1 1 = .ok (.l2i, 1) := by decide +kernel
theorem d31_2 : decode c_1 2 = .ok (.istore_n 3, 1) := by decide +kernel
theorem d31_3 : decode c_1 3 = .ok (.iload_n 3, 1) := by decide +kernel
theorem d31_4 : decode c_1 4 = .ok (.i2l, 1) := by decide +kernel
theorem d31_5 : decode c_1 5 = .ok (.lload_n 1, 1) := by decide +kernel
theorem d31_6 : decode c_1 6 = .ok (.lcmp, 1) := by decide +kernel
theorem d31_7 : decode c_1 7 = .ok (.ifCond .eq 69, 3) := by decide +kernel
theorem d31_76 : decode c_1 76 = .ok (.iload_n 3, 1) := by decide +kernel
theorem d31_77 : decode c_1 77 = .ok (.ireturn, 1) := by decide +kernel
theorem ef_rmCsV (m : MethodId) (x0 : Addr) (x1 : Int64) : entryFrame m #[(.ref x0), (.long x1)] 5 = mkF m 0 #[.val (.ref x0), .val (.long x1), .second, .unset, .unset] [] := by first | (simp [entryFrame, mkF, argsToLocals, Value.category]; done) | rfl
def QrmCsV (Z : State) (a1 : Addr) (x : Int64)  (h0 : Heap) (n0 : Nat) (v : Option Value) (h : Heap) (L : List Loc) : Prop := v = some (.int x.toInt32) ∧ Fr n0 L ∧ h = h0
theorem rmCsV (l : Launch) (Z : State) (a0 : Array Value) (hw : ∀ d ∈ tables_1, d.before a0 Z = true) (ws : List Jvm.Cond) (a1 : Addr) (x : Int64)  (h0 : Heap) (n0 : Nat) (Z0 : n0 ≤ h0.size) (hc : x.toInt32.toInt64 = x) :
    MetFree l m_33 (head1 (Jvm.Cond.code m_33 jdk_17_method_106_code 5 (some .int) :: ws) ({ frames := 0, cells := 0, slots := 0, locals := 0 } : Room)) (fun a U => a = #[(.ref a1), (.long x)] ∧ Z.Warmed39 U.vm ∧ U.heap = h0) (fun _ _ _ _ _ => True) (fun _ U o U' => ∃ v L, o = .returned v ∧ QrmCsV Z a1 x  h0 n0 v U'.heap L ∧ FrameEnd U o U' L ({ frames := 0, cells := 0, slots := 0, locals := 0 } : Room).cells ({ frames := 0, cells := 0, slots := 0, locals := 0 } : Room).slots) := by
  refine MetFree.of_bodySF (plainFor_of_name pn_java_math_BigDecimal) hisR ?_
  intro p e s m args below meth c s₁ Bd hml0 hP hK
  obtain ⟨rfl, hZ, hh⟩ := hP
  have hx := Bd.exec
  have hby := Bd.bytes
  have hml : c.maxLocals = 5 := hml0
  have hown : s.vm.findClass "java/math/BigDecimal" = some m.cls := findClass_of_methodNamed Bd.named
  have hnm := (name_of_methodNamed Bd.named Bd.method).1
  have X0 : Stand p l e ({ frames := 0, cells := 0, slots := 0, locals := 0 } : Room) s m #[(.ref a1), (.long x)] below meth c s₁ [] 0 0 := Stand.of_body Bd
  have e0 : s₁.heap = h0 := by rw [← hh, Bd.state]; rfl
  have N0 := Fr.nil n0
  have pre0 : ∀ t, Steps p.tables e below (s₁.setTop (mkF m 0 #[.val (.ref a1), .val (.long x), .second, .unset, .unset] [])) t → Steps p.tables e below (s₁.setTop (entryFrame m #[(.ref a1), (.long x)] 5)) t := fun t k => castTop (ef_rmCsV m a1 x) k
  obtain ⟨fs, hr, hrun, hended, hW, hsame⟩ := X0.leave (v := some (.int (x.toInt32))) (fun h => by rw [Bd.returns] at h; cases h) Bd.notSynchronized
  refine ⟨_, _, pre0 _ ?_, hrun, hended, _, _, rfl, ?_, ⟨_, rfl⟩, hW, hsame.mono (by decide) (by decide)⟩
  · show Steps p.tables e below (s₁.setTop (mkF m 0 #[.val (.ref a1), .val (.long x), .second, .unset, .unset] [])) _
    refine XS.lloadN X0.here hx rfl (hb hby d31_0) rfl ?_
    refine XS.l2i X0.here hx rfl (hb hby d31_1) rfl ?_
    refine XS.istoreN X0.here hx rfl (hb hby d31_2) rfl (l' := #[.val (.ref a1), .val (.long x), .second, .val (.int (x.toInt32)), .unset]) rfl ?_
    refine XS.iloadN X0.here hx rfl (hb hby d31_3) rfl ?_
    refine XS.i2l X0.here hx rfl (hb hby d31_4) rfl ?_
    refine XS.lloadN X0.here hx rfl (hb hby d31_5) rfl ?_
    refine XS.lcmp X0.here hx rfl (hb hby d31_6) rfl ?_
    refine XS.ifYes X0.here hx rfl (pc0 := 7) (pc' := 76) rfl (hb hby d31_7) rfl ((if0 _ _).trans (teq (by rw [hc]; exact own_lcmp_self x : (lcmpW ((x.toInt32).toInt64) x) = (0 : Int32))).1) (by decide) (by decide) ?_
    refine XS.iloadN X0.here hx rfl (hb hby d31_76) rfl ?_
    show Steps p.tables e below (s₁.setTop (mkF m 77 #[.val (.ref a1), .val (.long x), .second, .val (.int (x.toInt32)), .unset] [(.int (x.toInt32))])) _
    exact retI X0 hx Bd.returns (hb hby d31_77) hr
  · show QrmCsV Z a1 x  h0 n0 _ s₁.heap _
    rw [e0]
    exact ⟨rfl, N0, rfl⟩
theorem d20_0 : decode c_7 0 = .ok (.lload_n 0, 1) := by decide +kernel
theorem d20_1 : decode c_7 1 = .ok (.lload_n 2, 1) := by decide +kernel
theorem d20_2 : decode c_7 2 = .ok (.ladd, 1) := by decide +kernel
theorem d20_3 : decode c_7 3 = .ok (.lstore 4, 2) := by decide +kernel
theorem d20_5 : decode c_7 5 = .ok (.lload 4, 2) := by decide +kernel
theorem d20_7 : decode c_7 7 = .ok (.lload_n 0, 1) := by decide +kernel
theorem d20_8 : decode c_7 8 = .ok (.lxor, 1) := by decide +kernel
theorem d20_9 : decode c_7 9 = .ok (.lload 4, 2) := by decide +kernel
theorem d20_11 : decode c_7 11 = .ok (.lload_n 2, 1) := by decide +kernel
theorem d20_12 : decode c_7 12 = .ok (.lxor, 1) := by decide +kernel
theorem d20_13 : decode c_7 13 = .ok (.land, 1) := by decide +kernel
theorem d20_14 : decode c_7 14 = .ok (.lconst 0, 1) := by decide +kernel
theorem d20_15 : decode c_7 15 = .ok (.lcmp, 1) := by decide +kernel
theorem d20_16 : decode c_7 16 = .ok (.ifCond .lt 6, 3) := by decide +kernel
theorem d20_19 : decode c_7 19 = .ok (.lload 4, 2) := by decide +kernel
theorem d20_21 : decode c_7 21 = .ok (.lreturn, 1) := by decide +kernel
theorem ef_rmAddJ (m : MethodId) (x0 : Int64) (x1 : Int64) : entryFrame m #[(.long x0), (.long x1)] 6 = mkF m 0 #[.val (.long x0), .second, .val (.long x1), .second, .unset, .unset] [] := by first | (simp [entryFrame, mkF, argsToLocals, Value.category]; done) | rfl
def QrmAddJ (Z : State) (x : Int64) (y : Int64)  (h0 : Heap) (n0 : Nat) (v : Option Value) (h : Heap) (L : List Loc) : Prop := v = some (.long (x + y)) ∧ Fr n0 L ∧ h = h0
theorem rmAddJ (l : Launch) (Z : State) (a0 : Array Value) (hw : ∀ d ∈ tables_1, d.before a0 Z = true) (ws : List Jvm.Cond) (x : Int64) (y : Int64)  (h0 : Heap) (n0 : Nat) (Z0 : n0 ≤ h0.size) (hs : ¬ (lcmpW (((x + y) ^^^ x) &&& ((x + y) ^^^ y)) (0 : Int64) < (0 : Int32))) :
    MetFree l m_34 (head1 (Jvm.Cond.code m_34 jdk_17_method_132_code 6 (some .long) :: ws) ({ frames := 0, cells := 0, slots := 0, locals := 0 } : Room)) (fun a U => a = #[(.long x), (.long y)] ∧ Z.Warmed39 U.vm ∧ U.heap = h0) (fun _ _ _ _ _ => True) (fun _ U o U' => ∃ v L, o = .returned v ∧ QrmAddJ Z x y  h0 n0 v U'.heap L ∧ FrameEnd U o U' L ({ frames := 0, cells := 0, slots := 0, locals := 0 } : Room).cells ({ frames := 0, cells := 0, slots := 0, locals := 0 } : Room).slots) := by
  refine MetFree.of_bodySF (plainFor_of_name pn_java_math_BigDecimal) hisR ?_
  intro p e s m args below meth c s₁ Bd hml0 hP hK
  obtain ⟨rfl, hZ, hh⟩ := hP
  have hx := Bd.exec
  have hby := Bd.bytes
  have hml : c.maxLocals = 6 := hml0
  have hown : s.vm.findClass "java/math/BigDecimal" = some m.cls := findClass_of_methodNamed Bd.named
  have hnm := (name_of_methodNamed Bd.named Bd.method).1
  have X0 : Stand p l e ({ frames := 0, cells := 0, slots := 0, locals := 0 } : Room) s m #[(.long x), (.long y)] below meth c s₁ [] 0 0 := Stand.of_body Bd
  have e0 : s₁.heap = h0 := by rw [← hh, Bd.state]; rfl
  have N0 := Fr.nil n0
  have pre0 : ∀ t, Steps p.tables e below (s₁.setTop (mkF m 0 #[.val (.long x), .second, .val (.long y), .second, .unset, .unset] [])) t → Steps p.tables e below (s₁.setTop (entryFrame m #[(.long x), (.long y)] 6)) t := fun t k => castTop (ef_rmAddJ m x y) k
  obtain ⟨fs, hr, hrun, hended, hW, hsame⟩ := X0.leave (v := some (.long (x + y))) (fun h => by rw [Bd.returns] at h; cases h) Bd.notSynchronized
  refine ⟨_, _, pre0 _ ?_, hrun, hended, _, _, rfl, ?_, ⟨_, rfl⟩, hW, hsame.mono (by decide) (by decide)⟩
  · show Steps p.tables e below (s₁.setTop (mkF m 0 #[.val (.long x), .second, .val (.long y), .second, .unset, .unset] [])) _
    refine XS.lloadN X0.here hx rfl (hb hby d20_0) rfl ?_
    refine XS.lloadN X0.here hx rfl (hb hby d20_1) rfl ?_
    refine XS.ladd X0.here hx rfl (hb hby d20_2) rfl ?_
    refine XS.lstore X0.here hx rfl (hb hby d20_3) rfl (l' := #[.val (.long x), .second, .val (.long y), .second, .val (.long (x + y)), .second]) rfl ?_
    refine XS.lload X0.here hx rfl (hb hby d20_5) rfl ?_
    refine XS.lloadN X0.here hx rfl (hb hby d20_7) rfl ?_
    refine XS.lxor X0.here hx rfl (hb hby d20_8) rfl ?_
    refine XS.lload X0.here hx rfl (hb hby d20_9) rfl ?_
    refine XS.lloadN X0.here hx rfl (hb hby d20_11) rfl ?_
    refine XS.lxor X0.here hx rfl (hb hby d20_12) rfl ?_
    refine XS.land X0.here hx rfl (hb hby d20_13) rfl ?_
    refine XS.lconst X0.here hx rfl (hb hby d20_14) ?_
    refine XS.lcmp X0.here hx rfl (hb hby d20_15) rfl ?_
    refine XS.ifNo X0.here hx rfl (hb hby d20_16) rfl ((if0 _ _).trans (flt (hs : ¬ ((lcmpW (((x + y) ^^^ x) &&& ((x + y) ^^^ y)) (0 : Int64)) < (0 : Int32)))).1) ?_
    refine XS.lload X0.here hx rfl (hb hby d20_19) rfl ?_
    show Steps p.tables e below (s₁.setTop (mkF m 21 #[.val (.long x), .second, .val (.long y), .second, .val (.long (x + y)), .second] [(.long (x + y))])) _
    exact X0.lreturnOut hx Bd.returns (hb hby d20_21) hr
  · show QrmAddJ Z x y  h0 n0 _ s₁.heap _
    rw [e0]
    exact ⟨rfl, N0, rfl⟩
theorem d34_0 : decode c_2 0 = .ok (.lload_n 0, 1) := by decide +kernel
theorem d34_1 : decode c_2 1 = .ok (.lconst 0, 1) := by decide +kernel
theorem d34_2 : decode c_2 2 = .ok (.lcmp, 1) := by decide +kernel
theorem d34_3 : decode c_2 3 = .ok (.ifCond .ge 6, 3) := by decide +kernel
theorem d34_6 : decode c_2 6 = .ok (.lload_n 0, 1) := by decide +kernel
theorem d34_7 : decode c_2 7 = .ok (.lneg, 1) := by decide +kernel
theorem d34_8 : decode c_2 8 = .ok (.lstore_n 0, 1) := by decide +kernel
theorem d34_9 : decode c_2 9 = .ok (.lload_n 2, 1) := by decide +kernel
theorem d34_10 : decode c_2 10 = .ok (.lconst 0, 1) := by decide +kernel
theorem d34_11 : decode c_2 11 = .ok (.lcmp, 1) := by decide +kernel
theorem d34_12 : decode c_2 12 = .ok (.ifCond .ge 6, 3) := by decide +kernel
theorem d34_15 : decode c_2 15 = .ok (.lload_n 2, 1) := by decide +kernel
theorem d34_16 : decode c_2 16 = .ok (.lneg, 1) := by decide +kernel
theorem d34_17 : decode c_2 17 = .ok (.lstore_n 2, 1) := by decide +kernel
theorem d34_18 : decode c_2 18 = .ok (.lload_n 0, 1) := by decide +kernel
theorem d34_19 : decode c_2 19 = .ok (.lload_n 2, 1) := by decide +kernel
theorem d34_20 : decode c_2 20 = .ok (.invokestatic 881, 3) := by decide +kernel
theorem pd_0 : parseMethodDescriptor "(JJ)I" = some ⟨[.long, .long], some .int⟩ := by decide +kernel
theorem d34_23 : decode c_2 23 = .ok (.ireturn, 1) := by decide +kernel
theorem ef_rmLcm (m : MethodId) (x0 : Int64) (x1 : Int64) : entryFrame m #[(.long x0), (.long x1)] 4 = mkF m 0 #[.val (.long x0), .second, .val (.long x1), .second] [] := by first | (simp [entryFrame, mkF, argsToLocals, Value.category]; done) | rfl
def QrmLcm (Z : State) (x : Int64) (y : Int64)  (h0 : Heap) (n0 : Nat) (v : Option Value) (h : Heap) (L : List Loc) : Prop := v = some (.int (own_lc (own_abs x) (own_abs y))) ∧ Fr n0 L ∧ h = h0
theorem rmLcm (l : Launch) (Z : State) (a0 : Array Value) (hw : ∀ d ∈ tables_1, d.before a0 Z = true) (ws : List Jvm.Cond) (x : Int64) (y : Int64)  (h0 : Heap) (n0 : Nat) (Z0 : n0 ≤ h0.size)  :
    MetFree l m_18 (head1 (Jvm.Cond.code m_18 jdk_17_method_108_code 4 (some .int) :: ws) ({ frames := 1, cells := 0, slots := 0, locals := 15 } : Room)) (fun a U => a = #[(.long x), (.long y)] ∧ Z.Warmed39 U.vm ∧ U.heap = h0) (fun _ _ _ _ _ => True) (fun _ U o U' => ∃ v L, o = .returned v ∧ QrmLcm Z x y  h0 n0 v U'.heap L ∧ FrameEnd U o U' L ({ frames := 1, cells := 0, slots := 0, locals := 15 } : Room).cells ({ frames := 1, cells := 0, slots := 0, locals := 15 } : Room).slots) := by
  refine MetFree.of_bodySF (plainFor_of_name pn_java_math_BigDecimal) hisR ?_
  intro p e s m args below meth c s₁ Bd hml0 hP hK
  obtain ⟨rfl, hZ, hh⟩ := hP
  have hx := Bd.exec
  have hby := Bd.bytes
  have hml : c.maxLocals = 4 := hml0
  have hown : s.vm.findClass "java/math/BigDecimal" = some m.cls := findClass_of_methodNamed Bd.named
  have hnm := (name_of_methodNamed Bd.named Bd.method).1
  have X0 : Stand p l e ({ frames := 1, cells := 0, slots := 0, locals := 15 } : Room) s m #[(.long x), (.long y)] below meth c s₁ [] 0 0 := Stand.of_body Bd
  have e0 : s₁.heap = h0 := by rw [← hh, Bd.state]; rfl
  have N0 := Fr.nil n0
  have pre0 : ∀ t, Steps p.tables e below (s₁.setTop (mkF m 0 #[.val (.long x), .second, .val (.long y), .second] [])) t → Steps p.tables e below (s₁.setTop (entryFrame m #[(.long x), (.long y)] 4)) t := fun t k => castTop (ef_rmLcm m x y) k
  have pk1 : ∀ target, Steps p.tables e below (s₁.setTop (mkF m 3 #[.val (.long x), .second, .val (.long y), .second] [(.int (lcmpW x (0 : Int64)))])) target → Steps p.tables e below (s₁.setTop (mkF m 0 #[.val (.long x), .second, .val (.long y), .second] [])) target := by
    intro target kt
    show Steps p.tables e below (s₁.setTop (mkF m 0 #[.val (.long x), .second, .val (.long y), .second] [])) _
    refine XS.lloadN X0.here hx rfl (hb hby d34_0) rfl ?_
    refine XS.lconst X0.here hx rfl (hb hby d34_1) ?_
    refine XS.lcmp X0.here hx rfl (hb hby d34_2) rfl ?_
    exact kt
  by_cases h1 : (lcmpW x (0 : Int64)) < (0 : Int32)
  · have pk2 : ∀ target, Steps p.tables e below (s₁.setTop (mkF m 12 #[.val (.long (-x)), .second, .val (.long y), .second] [(.int (lcmpW y (0 : Int64)))])) target → Steps p.tables e below (s₁.setTop (mkF m 0 #[.val (.long x), .second, .val (.long y), .second] [])) target := by
      intro target kt
      refine pk1 _ ?_
      show Steps p.tables e below (s₁.setTop (mkF m 3 #[.val (.long x), .second, .val (.long y), .second] [(.int (lcmpW x (0 : Int64)))])) _
      refine XS.ifNo X0.here hx rfl (hb hby d34_3) rfl ((if0 _ _).trans (tlt (h1 : (lcmpW x (0 : Int64)) < (0 : Int32))).2.1) ?_
      refine XS.lloadN X0.here hx rfl (hb hby d34_6) rfl ?_
      refine XS.lneg X0.here hx rfl (hb hby d34_7) rfl ?_
      refine XS.lstoreN X0.here hx rfl (hb hby d34_8) rfl (l' := #[.val (.long (-x)), .second, .val (.long y), .second]) rfl ?_
      refine XS.lloadN X0.here hx rfl (hb hby d34_9) rfl ?_
      refine XS.lconst X0.here hx rfl (hb hby d34_10) ?_
      refine XS.lcmp X0.here hx rfl (hb hby d34_11) rfl ?_
      exact kt
    by_cases h2 : (lcmpW y (0 : Int64)) < (0 : Int32)
    · obtain ⟨_, _, ⟨T3, L3, k3, n3⟩, -, X3, ⟨Lc3, hQ3, l3, y3, z3⟩, st3⟩ := Jvm.LawKit.callS X0 hx (y := m_9) hown (mvT hZ (own_w hw 189 rfl)) (mvT hZ (own_w hw 190 rfl)) (mvT hZ (own_w hw 169 rfl)) (mvT hZ (own_w hw 191 rfl)) (by decide) (backOf (W := 0) (rmLcmp l Z a0 hw [] (-x) (-y)  h0 n0 Z0 ) hZ (own_w hw 191 rfl) (own_w hw 169 rfl) (by decide) (by decide)) (g := (mkF m 20 #[.val (.long (-x)), .second, .val (.long (-y)), .second] [(.long (-y)), (.long (-x))])) rfl (by rw [hml]; rfl) (argsL := [(.long (-x)), (.long (-y))]) (rest := []) (lenOf pd_0 rfl) rfl (by show 2 * 0 + _ ≤ _; exact Nat.le_of_eq rfl) (hb hby d34_20) (fun _ _ => ⟨rfl, e0, (by decide : 0 + 0 ≤ _), (by decide : 0 + 0 ≤ _)⟩)
      dsimp only [Pt.U, Pt.locs, Pt.cells, Pt.slots] at X3 l3 y3 z3 st3 hQ3
      subst y3 z3
      obtain ⟨rfl, N3q, e3⟩ := hQ3
      have N3 : Fr n0 L3 := by rw [l3]; exact Fr.app N0 N3q
      obtain ⟨fs, hr, hrun, hended, hW, hsame⟩ := X3.leave (v := some (.int (own_lc (-x) (-y)))) (fun h => by rw [Bd.returns] at h; cases h) Bd.notSynchronized
      refine ⟨_, _, pre0 _ ?_, hrun, hended, _, _, rfl, ?_, ⟨_, rfl⟩, hW, hsame.mono (by decide) (by decide)⟩
      · refine pk2 _ ?_
        show Steps p.tables e below (s₁.setTop (mkF m 12 #[.val (.long (-x)), .second, .val (.long y), .second] [(.int (lcmpW y (0 : Int64)))])) _
        refine XS.ifNo X0.here hx rfl (hb hby d34_12) rfl ((if0 _ _).trans (tlt (h2 : (lcmpW y (0 : Int64)) < (0 : Int32))).2.1) ?_
        refine XS.lloadN X0.here hx rfl (hb hby d34_15) rfl ?_
        refine XS.lneg X0.here hx rfl (hb hby d34_16) rfl ?_
        refine XS.lstoreN X0.here hx rfl (hb hby d34_17) rfl (l' := #[.val (.long (-x)), .second, .val (.long (-y)), .second]) rfl ?_
        refine XS.lloadN X0.here hx rfl (hb hby d34_18) rfl ?_
        refine XS.lloadN X0.here hx rfl (hb hby d34_19) rfl ?_
        refine st3 _ ?_
        show Steps p.tables e below (T3.setTop (mkF m 23 #[.val (.long (-x)), .second, .val (.long (-y)), .second] [(.int (own_lc (-x) (-y)))])) _
        exact retI X3 hx Bd.returns (hb hby d34_23) hr
      · show QrmLcm Z x y  h0 n0 _ T3.heap _
        rw [e3]
        exact ⟨by rw [own_abs, own_abs, if_pos h1, if_pos h2], N3, rfl⟩
    · obtain ⟨_, _, ⟨T3, L3, k3, n3⟩, -, X3, ⟨Lc3, hQ3, l3, y3, z3⟩, st3⟩ := Jvm.LawKit.callS X0 hx (y := m_9) hown (mvT hZ (own_w hw 189 rfl)) (mvT hZ (own_w hw 190 rfl)) (mvT hZ (own_w hw 169 rfl)) (mvT hZ (own_w hw 191 rfl)) (by decide) (backOf (W := 0) (rmLcmp l Z a0 hw [] (-x) y  h0 n0 Z0 ) hZ (own_w hw 191 rfl) (own_w hw 169 rfl) (by decide) (by decide)) (g := (mkF m 20 #[.val (.long (-x)), .second, .val (.long y), .second] [(.long y), (.long (-x))])) rfl (by rw [hml]; rfl) (argsL := [(.long (-x)), (.long y)]) (rest := []) (lenOf pd_0 rfl) rfl (by show 2 * 0 + _ ≤ _; exact Nat.le_of_eq rfl) (hb hby d34_20) (fun _ _ => ⟨rfl, e0, (by decide : 0 + 0 ≤ _), (by decide : 0 + 0 ≤ _)⟩)
      dsimp only [Pt.U, Pt.locs, Pt.cells, Pt.slots] at X3 l3 y3 z3 st3 hQ3
      subst y3 z3
      obtain ⟨rfl, N3q, e3⟩ := hQ3
      have N3 : Fr n0 L3 := by rw [l3]; exact Fr.app N0 N3q
      obtain ⟨fs, hr, hrun, hended, hW, hsame⟩ := X3.leave (v := some (.int (own_lc (-x) y))) (fun h => by rw [Bd.returns] at h; cases h) Bd.notSynchronized
      refine ⟨_, _, pre0 _ ?_, hrun, hended, _, _, rfl, ?_, ⟨_, rfl⟩, hW, hsame.mono (by decide) (by decide)⟩
      · refine pk2 _ ?_
        show Steps p.tables e below (s₁.setTop (mkF m 12 #[.val (.long (-x)), .second, .val (.long y), .second] [(.int (lcmpW y (0 : Int64)))])) _
        refine XS.ifYes X0.here hx rfl (pc0 := 12) (pc' := 18) rfl (hb hby d34_12) rfl ((if0 _ _).trans (flt (h2 : ¬ ((lcmpW y (0 : Int64)) < (0 : Int32)))).2.1) (by decide) (by decide) ?_
        refine XS.lloadN X0.here hx rfl (hb hby d34_18) rfl ?_
        refine XS.lloadN X0.here hx rfl (hb hby d34_19) rfl ?_
        refine st3 _ ?_
        show Steps p.tables e below (T3.setTop (mkF m 23 #[.val (.long (-x)), .second, .val (.long y), .second] [(.int (own_lc (-x) y))])) _
        exact retI X3 hx Bd.returns (hb hby d34_23) hr
      · show QrmLcm Z x y  h0 n0 _ T3.heap _
        rw [e3]
        exact ⟨by rw [own_abs, own_abs, if_pos h1, if_neg h2], N3, rfl⟩
  · have pk2 : ∀ target, Steps p.tables e below (s₁.setTop (mkF m 12 #[.val (.long x), .second, .val (.long y), .second] [(.int (lcmpW y (0 : Int64)))])) target → Steps p.tables e below (s₁.setTop (mkF m 0 #[.val (.long x), .second, .val (.long y), .second] [])) target := by
      intro target kt
      refine pk1 _ ?_
      show Steps p.tables e below (s₁.setTop (mkF m 3 #[.val (.long x), .second, .val (.long y), .second] [(.int (lcmpW x (0 : Int64)))])) _
      refine XS.ifYes X0.here hx rfl (pc0 := 3) (pc' := 9) rfl (hb hby d34_3) rfl ((if0 _ _).trans (flt (h1 : ¬ ((lcmpW x (0 : Int64)) < (0 : Int32)))).2.1) (by decide) (by decide) ?_
      refine XS.lloadN X0.here hx rfl (hb hby d34_9) rfl ?_
      refine XS.lconst X0.here hx rfl (hb hby d34_10) ?_
      refine XS.lcmp X0.here hx rfl (hb hby d34_11) rfl ?_
      exact kt
    by_cases h2 : (lcmpW y (0 : Int64)) < (0 : Int32)
    · obtain ⟨_, _, ⟨T3, L3, k3, n3⟩, -, X3, ⟨Lc3, hQ3, l3, y3, z3⟩, st3⟩ := Jvm.LawKit.callS X0 hx (y := m_9) hown (mvT hZ (own_w hw 189 rfl)) (mvT hZ (own_w hw 190 rfl)) (mvT hZ (own_w hw 169 rfl)) (mvT hZ (own_w hw 191 rfl)) (by decide) (backOf (W := 0) (rmLcmp l Z a0 hw [] x (-y)  h0 n0 Z0 ) hZ (own_w hw 191 rfl) (own_w hw 169 rfl) (by decide) (by decide)) (g := (mkF m 20 #[.val (.long x), .second, .val (.long (-y)), .second] [(.long (-y)), (.long x)])) rfl (by rw [hml]; rfl) (argsL := [(.long x), (.long (-y))]) (rest := []) (lenOf pd_0 rfl) rfl (by show 2 * 0 + _ ≤ _; exact Nat.le_of_eq rfl) (hb hby d34_20) (fun _ _ => ⟨rfl, e0, (by decide : 0 + 0 ≤ _), (by decide : 0 + 0 ≤ _)⟩)
      dsimp only [Pt.U, Pt.locs, Pt.cells, Pt.slots] at X3 l3 y3 z3 st3 hQ3
      subst y3 z3
      obtain ⟨rfl, N3q, e3⟩ := hQ3
      have N3 : Fr n0 L3 := by rw [l3]; exact Fr.app N0 N3q
      obtain ⟨fs, hr, hrun, hended, hW, hsame⟩ := X3.leave (v := some (.int (own_lc x (-y)))) (fun h => by rw [Bd.returns] at h; cases h) Bd.notSynchronized
      refine ⟨_, _, pre0 _ ?_, hrun, hended, _, _, rfl, ?_, ⟨_, rfl⟩, hW, hsame.mono (by decide) (by decide)⟩
      · refine pk2 _ ?_
        show Steps p.tables e below (s₁.setTop (mkF m 12 #[.val (.long x), .second, .val (.long y), .second] [(.int (lcmpW y (0 : Int64)))])) _
        refine XS.ifNo X0.here hx rfl (hb hby d34_12) rfl ((if0 _ _).trans (tlt (h2 : (lcmpW y (0 : Int64)) < (0 : Int32))).2.1) ?_
        refine XS.lloadN X0.here hx rfl (hb hby d34_15) rfl ?_
        refine XS.lneg X0.here hx rfl (hb hby d34_16) rfl ?_
        refine XS.lstoreN X0.here hx rfl (hb hby d34_17) rfl (l' := #[.val (.long x), .second, .val (.long (-y)), .second]) rfl ?_
        refine XS.lloadN X0.here hx rfl (hb hby d34_18) rfl ?_
        refine XS.lloadN X0.here hx rfl (hb hby d34_19) rfl ?_
        refine st3 _ ?_
        show Steps p.tables e below (T3.setTop (mkF m 23 #[.val (.long x), .second, .val (.long (-y)), .second] [(.int (own_lc x (-y)))])) _
        exact retI X3 hx Bd.returns (hb hby d34_23) hr
      · show QrmLcm Z x y  h0 n0 _ T3.heap _
        rw [e3]
        exact ⟨by rw [own_abs, own_abs, if_neg h1, if_pos h2], N3, rfl⟩
    · obtain ⟨_, _, ⟨T3, L3, k3, n3⟩, -, X3, ⟨Lc3, hQ3, l3, y3, z3⟩, st3⟩ := Jvm.LawKit.callS X0 hx (y := m_9) hown (mvT hZ (own_w hw 189 rfl)) (mvT hZ (own_w hw 190 rfl)) (mvT hZ (own_w hw 169 rfl)) (mvT hZ (own_w hw 191 rfl)) (by decide) (backOf (W := 0) (rmLcmp l Z a0 hw [] x y  h0 n0 Z0 ) hZ (own_w hw 191 rfl) (own_w hw 169 rfl) (by decide) (by decide)) (g := (mkF m 20 #[.val (.long x), .second, .val (.long y), .second] [(.long y), (.long x)])) rfl (by rw [hml]; rfl) (argsL := [(.long x), (.long y)]) (rest := []) (lenOf pd_0 rfl) rfl (by show 2 * 0 + _ ≤ _; exact Nat.le_of_eq rfl) (hb hby d34_20) (fun _ _ => ⟨rfl, e0, (by decide : 0 + 0 ≤ _), (by decide : 0 + 0 ≤ _)⟩)
      dsimp only [Pt.U, Pt.locs, Pt.cells, Pt.slots] at X3 l3 y3 z3 st3 hQ3
      subst y3 z3
      obtain ⟨rfl, N3q, e3⟩ := hQ3
      have N3 : Fr n0 L3 := by rw [l3]; exact Fr.app N0 N3q
      obtain ⟨fs, hr, hrun, hended, hW, hsame⟩ := X3.leave (v := some (.int (own_lc x y))) (fun h => by rw [Bd.returns] at h; cases h) Bd.notSynchronized
      refine ⟨_, _, pre0 _ ?_, hrun, hended, _, _, rfl, ?_, ⟨_, rfl⟩, hW, hsame.mono (by decide) (by decide)⟩
      · refine pk2 _ ?_
        show Steps p.tables e below (s₁.setTop (mkF m 12 #[.val (.long x), .second, .val (.long y), .second] [(.int (lcmpW y (0 : Int64)))])) _
        refine XS.ifYes X0.here hx rfl (pc0 := 12) (pc' := 18) rfl (hb hby d34_12) rfl ((if0 _ _).trans (flt (h2 : ¬ ((lcmpW y (0 : Int64)) < (0 : Int32)))).2.1) (by decide) (by decide) ?_
        refine XS.lloadN X0.here hx rfl (hb hby d34_18) rfl ?_
        refine XS.lloadN X0.here hx rfl (hb hby d34_19) rfl ?_
        refine st3 _ ?_
        show Steps p.tables e below (T3.setTop (mkF m 23 #[.val (.long x), .second, .val (.long y), .second] [(.int (own_lc x y))])) _
        exact retI X3 hx Bd.returns (hb hby d34_23) hr
      · show QrmLcm Z x y  h0 n0 _ T3.heap _
        rw [e3]
        exact ⟨by rw [own_abs, own_abs, if_neg h1, if_neg h2], N3, rfl⟩
theorem own_mp0 {x : Int64} (k : Int32) (h : lcmpW x (0 : Int64) = (0 : Int32)) : x = x * own_pw k := by rw [(lw_eq x 0).mp h, Int64.zero_mul]
theorem own_mp1 (x : Int64) {k : Int32} (h : ¬ ((0 : Int32) < k)) (h0 : 0 ≤ k.toInt) : x = x * own_pw k := by
  have e0 : (0 : Int32).toInt = 0 := rfl
  rw [Int32.lt_iff_toInt_lt] at h
  have : k = 0 := Int32.toInt_inj.mp (by omega)
  subst this
  exact (Int64.mul_one x).symm
theorem own_mp2 {x : Int64} (k : Int32) (h : lcmpW x (1 : Int64) = (0 : Int32)) : own_pw k = x * own_pw k := by rw [(lw_eq x 1).mp h, Int64.one_mul]
theorem own_lt19 {k : Int32} (h : k.toInt < 19) : k < (19 : Int32) := Int32.lt_iff_toInt_lt.mpr h
def own_ni (c : Int32) : Int32 := if c < (0 : Int32) then (0 : Int32) else (1 : Int32)
theorem own_nib (c : Int32) : nar .boolean (own_ni c) = own_ni c := by
  unfold own_ni
  split <;> rfl
theorem d17_0 : decode c_23 0 = .ok (.lload_n 0, 1) := by decide +kernel
theorem d17_1 : decode c_23 1 = .ok (.lconst 0, 1) := by decide +kernel
theorem d17_2 : decode c_23 2 = .ok (.lcmp, 1) := by decide +kernel
theorem d17_3 : decode c_23 3 = .ok (.ifCond .eq 7, 3) := by decide +kernel
theorem d17_10 : decode c_23 10 = .ok (.lload_n 0, 1) := by decide +kernel
theorem d17_11 : decode c_23 11 = .ok (.lreturn, 1) := by decide +kernel
theorem d17_6 : decode c_23 6 = .ok (.iload_n 2, 1) := by decide +kernel
theorem d17_7 : decode c_23 7 = .ok (.ifCond .gt 5, 3) := by decide +kernel
theorem d17_12 : decode c_23 12 = .ok (.getstatic 95, 3) := by decide +kernel
theorem d17_15 : decode c_23 15 = .ok (.astore_n 3, 1) := by decide +kernel
theorem d17_16 : decode c_23 16 = .ok (.getstatic 825, 3) := by decide +kernel
theorem d17_19 : decode c_23 19 = .ok (.astore 4, 2) := by decide +kernel
theorem d17_21 : decode c_23 21 = .ok (.iload_n 2, 1) := by decide +kernel
theorem d17_22 : decode c_23 22 = .ok (.aload_n 3, 1) := by decide +kernel
theorem d17_23 : decode c_23 23 = .ok (.arraylength, 1) := by decide +kernel
theorem d17_24 : decode c_23 24 = .ok (.if_icmp .ge 41, 3) := by decide +kernel
theorem d17_27 : decode c_23 27 = .ok (.iload_n 2, 1) := by decide +kernel
theorem d17_28 : decode c_23 28 = .ok (.aload 4, 2) := by decide +kernel
theorem d17_30 : decode c_23 30 = .ok (.arraylength, 1) := by decide +kernel
theorem d17_31 : decode c_23 31 = .ok (.if_icmp .ge 34, 3) := by decide +kernel
theorem d17_34 : decode c_23 34 = .ok (.aload_n 3, 1) := by decide +kernel
theorem d17_35 : decode c_23 35 = .ok (.iload_n 2, 1) := by decide +kernel
theorem d17_36 : decode c_23 36 = .ok (.laload, 1) := by decide +kernel
theorem d17_37 : decode c_23 37 = .ok (.lstore 5, 2) := by decide +kernel
theorem d17_39 : decode c_23 39 = .ok (.lload_n 0, 1) := by decide +kernel
theorem d17_40 : decode c_23 40 = .ok (.lconst 1, 1) := by decide +kernel
theorem d17_41 : decode c_23 41 = .ok (.lcmp, 1) := by decide +kernel
theorem d17_42 : decode c_23 42 = .ok (.ifCond .ne 6, 3) := by decide +kernel
theorem d17_45 : decode c_23 45 = .ok (.lload 5, 2) := by decide +kernel
theorem d17_47 : decode c_23 47 = .ok (.lreturn, 1) := by decide +kernel
theorem d17_48 : decode c_23 48 = .ok (.lload_n 0, 1) := by decide +kernel
theorem d17_49 : decode c_23 49 = .ok (.invokestatic 440, 3) := by decide +kernel
theorem pd_1 : parseMethodDescriptor "(J)J" = some ⟨[.long], some .long⟩ := by decide +kernel
theorem d17_52 : decode c_23 52 = .ok (.aload 4, 2) := by decide +kernel
theorem d17_54 : decode c_23 54 = .ok (.iload_n 2, 1) := by decide +kernel
theorem d17_55 : decode c_23 55 = .ok (.laload, 1) := by decide +kernel
theorem d17_56 : decode c_23 56 = .ok (.lcmp, 1) := by decide +kernel
theorem d17_57 : decode c_23 57 = .ok (.ifCond .gt 8, 3) := by decide +kernel
theorem d17_60 : decode c_23 60 = .ok (.lload_n 0, 1) := by decide +kernel
theorem d17_61 : decode c_23 61 = .ok (.lload 5, 2) := by decide +kernel
theorem d17_63 : decode c_23 63 = .ok (.lmul, 1) := by decide +kernel
theorem d17_64 : decode c_23 64 = .ok (.lreturn, 1) := by decide +kernel
theorem ef_rmMp (m : MethodId) (x0 : Int64) (x1 : Int32) : entryFrame m #[(.long x0), (.int x1)] 7 = mkF m 0 #[.val (.long x0), .second, .val (.int x1), .unset, .unset, .unset, .unset] [] := by first | (simp [entryFrame, mkF, argsToLocals, Value.category]; done) | rfl
def QrmMp (Z : State) (x : Int64) (kk : Int32)  (h0 : Heap) (n0 : Nat) (v : Option Value) (h : Heap) (L : List Loc) : Prop := v = some (.long (x * own_pw kk)) ∧ Fr n0 L ∧ h = h0
theorem rmMp (l : Launch) (Z : State) (a0 : Array Value) (hw : ∀ d ∈ tables_1, d.before a0 Z = true) (ws : List Jvm.Cond) (x : Int64) (kk : Int32)  (h0 : Heap) (n0 : Nat) (Z0 : n0 ≤ h0.size) (J : own_J Z) (O0 : Old Z n0 h0) (hk0 : 0 ≤ kk.toInt) (hk1 : kk.toInt < 19) (hbd : ¬ ((0 : Int32) < lcmpW (own_abs x) (own_th kk))) :
    MetFree l m_13 (head1 (Jvm.Cond.code m_13 jdk_17_method_97_code 7 (some .long) :: ws) ({ frames := 1, cells := 0, slots := 0, locals := 13 } : Room)) (fun a U => a = #[(.long x), (.int kk)] ∧ Z.Warmed39 U.vm ∧ U.heap = h0) (fun _ _ _ _ _ => True) (fun _ U o U' => ∃ v L, o = .returned v ∧ QrmMp Z x kk  h0 n0 v U'.heap L ∧ FrameEnd U o U' L ({ frames := 1, cells := 0, slots := 0, locals := 13 } : Room).cells ({ frames := 1, cells := 0, slots := 0, locals := 13 } : Room).slots) := by
  refine MetFree.of_bodySF (plainFor_of_name pn_java_math_BigDecimal) hisR ?_
  intro p e s m args below meth c s₁ Bd hml0 hP hK
  obtain ⟨rfl, hZ, hh⟩ := hP
  have hx := Bd.exec
  have hby := Bd.bytes
  have hml : c.maxLocals = 7 := hml0
  have hown : s.vm.findClass "java/math/BigDecimal" = some m.cls := findClass_of_methodNamed Bd.named
  have hnm := (name_of_methodNamed Bd.named Bd.method).1
  have X0 : Stand p l e ({ frames := 1, cells := 0, slots := 0, locals := 13 } : Room) s m #[(.long x), (.int kk)] below meth c s₁ [] 0 0 := Stand.of_body Bd
  have e0 : s₁.heap = h0 := by rw [← hh, Bd.state]; rfl
  have N0 := Fr.nil n0
  have pre0 : ∀ t, Steps p.tables e below (s₁.setTop (mkF m 0 #[.val (.long x), .second, .val (.int kk), .unset, .unset, .unset, .unset] [])) t → Steps p.tables e below (s₁.setTop (entryFrame m #[(.long x), (.int kk)] 7)) t := fun t k => castTop (ef_rmMp m x kk) k
  obtain ⟨aT, cT, sT, AT, zT, HT⟩ := J.ten
  obtain ⟨aH, cH, sH, AH, zH, HH⟩ := J.thr
  have pk1 : ∀ target, Steps p.tables e below (s₁.setTop (mkF m 3 #[.val (.long x), .second, .val (.int kk), .unset, .unset, .unset, .unset] [(.int (lcmpW x (0 : Int64)))])) target → Steps p.tables e below (s₁.setTop (mkF m 0 #[.val (.long x), .second, .val (.int kk), .unset, .unset, .unset, .unset] [])) target := by
    intro target kt
    show Steps p.tables e below (s₁.setTop (mkF m 0 #[.val (.long x), .second, .val (.int kk), .unset, .unset, .unset, .unset] [])) _
    refine XS.lloadN X0.here hx rfl (hb hby d17_0) rfl ?_
    refine XS.lconst X0.here hx rfl (hb hby d17_1) ?_
    refine XS.lcmp X0.here hx rfl (hb hby d17_2) rfl ?_
    exact kt
  by_cases h1 : (lcmpW x (0 : Int64)) = (0 : Int32)
  · obtain ⟨fs, hr, hrun, hended, hW, hsame⟩ := X0.leave (v := some (.long x)) (fun h => by rw [Bd.returns] at h; cases h) Bd.notSynchronized
    refine ⟨_, _, pre0 _ ?_, hrun, hended, _, _, rfl, ?_, ⟨_, rfl⟩, hW, hsame.mono (by decide) (by decide)⟩
    · refine pk1 _ ?_
      show Steps p.tables e below (s₁.setTop (mkF m 3 #[.val (.long x), .second, .val (.int kk), .unset, .unset, .unset, .unset] [(.int (lcmpW x (0 : Int64)))])) _
      refine XS.ifYes X0.here hx rfl (pc0 := 3) (pc' := 10) rfl (hb hby d17_3) rfl ((if0 _ _).trans (teq (h1 : (lcmpW x (0 : Int64)) = (0 : Int32))).1) (by decide) (by decide) ?_
      refine XS.lloadN X0.here hx rfl (hb hby d17_10) rfl ?_
      show Steps p.tables e below (s₁.setTop (mkF m 11 #[.val (.long x), .second, .val (.int kk), .unset, .unset, .unset, .unset] [(.long x)])) _
      exact X0.lreturnOut hx Bd.returns (hb hby d17_11) hr
    · show QrmMp Z x kk  h0 n0 _ s₁.heap _
      rw [e0]
      exact ⟨congrArg (fun z => some (Value.long z)) (own_mp0 kk h1), N0, rfl⟩
  · have pk2 : ∀ target, Steps p.tables e below (s₁.setTop (mkF m 7 #[.val (.long x), .second, .val (.int kk), .unset, .unset, .unset, .unset] [(.int kk)])) target → Steps p.tables e below (s₁.setTop (mkF m 0 #[.val (.long x), .second, .val (.int kk), .unset, .unset, .unset, .unset] [])) target := by
      intro target kt
      refine pk1 _ ?_
      show Steps p.tables e below (s₁.setTop (mkF m 3 #[.val (.long x), .second, .val (.int kk), .unset, .unset, .unset, .unset] [(.int (lcmpW x (0 : Int64)))])) _
      refine XS.ifNo X0.here hx rfl (hb hby d17_3) rfl ((if0 _ _).trans (feq (h1 : ¬ ((lcmpW x (0 : Int64)) = (0 : Int32)))).1) ?_
      refine XS.iloadN X0.here hx rfl (hb hby d17_6) rfl ?_
      exact kt
    by_cases h2 : (0 : Int32) < kk
    · have f3 := sT.ext O0.2
      obtain ⟨T4, X4, e4, st4⟩ := getS2 X0 hx hZ hown (host := "") (Or.inl (own_w hw 98 rfl)) Via.refl e0 f3 (g := (mkF m 12 #[.val (.long x), .second, .val (.int kk), .unset, .unset, .unset, .unset] [])) rfl (hb hby d17_12)
      have f5 := sH.ext O0.2
      obtain ⟨T6, X6, e6, st6⟩ := getS2 X4 hx hZ hown (host := "") (Or.inl (own_w hw 99 rfl)) Via.refl e4 f5 (g := (mkF m 16 #[.val (.long x), .second, .val (.int kk), .val (.ref aT), .unset, .unset, .unset] [])) rfl (hb hby d17_16)
      have f7 := AT.ext O0.2
      have f8 := AH.ext O0.2
      have f9 := AT.ext O0.2
      have pk10 : ∀ target, Steps p.tables e below (T6.setTop (mkF m 42 #[.val (.long x), .second, .val (.int kk), .val (.ref aT), .val (.ref aH), .val (.long (own_pw kk)), .second] [(.int (lcmpW x (1 : Int64)))])) target → Steps p.tables e below (s₁.setTop (mkF m 0 #[.val (.long x), .second, .val (.int kk), .unset, .unset, .unset, .unset] [])) target := by
        intro target kt
        refine pk2 _ ?_
        show Steps p.tables e below (s₁.setTop (mkF m 7 #[.val (.long x), .second, .val (.int kk), .unset, .unset, .unset, .unset] [(.int kk)])) _
        refine XS.ifYes X0.here hx rfl (pc0 := 7) (pc' := 12) rfl (hb hby d17_7) rfl ((if0 _ _).trans (tlt (h2 : (0 : Int32) < kk)).2.2.1) (by decide) (by decide) ?_
        refine st4 _ ?_
        refine XS.astoreN X4.here hx rfl (hb hby d17_15) rfl rfl (l' := #[.val (.long x), .second, .val (.int kk), .val (.ref aT), .unset, .unset, .unset]) rfl ?_
        refine st6 _ ?_
        refine XS.astore X6.here hx rfl (hb hby d17_19) rfl rfl (l' := #[.val (.long x), .second, .val (.int kk), .val (.ref aT), .val (.ref aH), .unset, .unset]) rfl ?_
        refine XS.iloadN X6.here hx rfl (hb hby d17_21) rfl ?_
        refine XS.aloadN X6.here hx rfl (hb hby d17_22) rfl rfl ?_
        refine X6.arraylength hx (cell := cT) (by rw [e6]; exact f7.1) (State.isArrayOf_alike hZ.alike f7.2.1) (g := (mkF m 23 #[.val (.long x), .second, .val (.int kk), .val (.ref aT), .val (.ref aH), .unset, .unset] [(.ref aT), (.int kk)])) rfl (rest := [(.int kk)]) rfl (hb hby d17_23) _ ?_
        rw [len_of (zT.trans (by decide) : _ = (19 : Int32).toNatClampNeg) (by decide : ¬ (19 : Int32) < 0)]
        refine XS.icmpNo X6.here hx rfl (hb hby d17_24) rfl (tlt (own_lt19 hk1 : kk < (19 : Int32))).2.1 ?_
        refine XS.iloadN X6.here hx rfl (hb hby d17_27) rfl ?_
        refine XS.aload X6.here hx rfl (hb hby d17_28) rfl rfl ?_
        refine X6.arraylength hx (cell := cH) (by rw [e6]; exact f8.1) (State.isArrayOf_alike hZ.alike f8.2.1) (g := (mkF m 30 #[.val (.long x), .second, .val (.int kk), .val (.ref aT), .val (.ref aH), .unset, .unset] [(.ref aH), (.int kk)])) rfl (rest := [(.int kk)]) rfl (hb hby d17_30) _ ?_
        rw [len_of (zH.trans (by decide) : _ = (19 : Int32).toNatClampNeg) (by decide : ¬ (19 : Int32) < 0)]
        refine XS.icmpNo X6.here hx rfl (hb hby d17_31) rfl (tlt (own_lt19 hk1 : kk < (19 : Int32))).2.1 ?_
        refine XS.aloadN X6.here hx rfl (hb hby d17_34) rfl rfl ?_
        refine XS.iloadN X6.here hx rfl (hb hby d17_35) rfl ?_
        refine X6.laload hx (j := kk) (v := (.long (own_pw kk))) (by rw [e6]; exact f9.1) (State.isArrayOf_alike hZ.alike f9.2.1) f9.2.2 (own_in zT hk0 hk1) (HT _ (own_cl hk0 hk1)) (g := (mkF m 36 #[.val (.long x), .second, .val (.int kk), .val (.ref aT), .val (.ref aH), .unset, .unset] [(.int kk), (.ref aT)])) rfl rfl (hb hby d17_36) _ ?_
        refine XS.lstore X6.here hx rfl (hb hby d17_37) rfl (l' := #[.val (.long x), .second, .val (.int kk), .val (.ref aT), .val (.ref aH), .val (.long (own_pw kk)), .second]) rfl ?_
        refine XS.lloadN X6.here hx rfl (hb hby d17_39) rfl ?_
        refine XS.lconst X6.here hx rfl (hb hby d17_40) ?_
        refine XS.lcmp X6.here hx rfl (hb hby d17_41) rfl ?_
        exact kt
      by_cases h3 : (lcmpW x (1 : Int64)) = (0 : Int32)
      · obtain ⟨fs, hr, hrun, hended, hW, hsame⟩ := X6.leave (v := some (.long (own_pw kk))) (fun h => by rw [Bd.returns] at h; cases h) Bd.notSynchronized
        refine ⟨_, _, pre0 _ ?_, hrun, hended, _, _, rfl, ?_, ⟨_, rfl⟩, hW, hsame.mono (by decide) (by decide)⟩
        · refine pk10 _ ?_
          show Steps p.tables e below (T6.setTop (mkF m 42 #[.val (.long x), .second, .val (.int kk), .val (.ref aT), .val (.ref aH), .val (.long (own_pw kk)), .second] [(.int (lcmpW x (1 : Int64)))])) _
          refine XS.ifNo X6.here hx rfl (hb hby d17_42) rfl ((if0 _ _).trans (teq (h3 : (lcmpW x (1 : Int64)) = (0 : Int32))).2) ?_
          refine XS.lload X6.here hx rfl (hb hby d17_45) rfl ?_
          show Steps p.tables e below (T6.setTop (mkF m 47 #[.val (.long x), .second, .val (.int kk), .val (.ref aT), .val (.ref aH), .val (.long (own_pw kk)), .second] [(.long (own_pw kk))])) _
          exact X6.lreturnOut hx Bd.returns (hb hby d17_47) hr
        · show QrmMp Z x kk  h0 n0 _ T6.heap _
          rw [e6]
          exact ⟨congrArg (fun z => some (Value.long z)) (own_mp2 kk h3), N0, rfl⟩
      · obtain ⟨_, _, ⟨T11, L11, k11, n11⟩, -, X11, ⟨Lc11, hQ11, l11, y11, z11⟩, st11⟩ := Jvm.LawKit.callS X6 hx (y := m_15) hown (mvT hZ (own_w hw 100 rfl)) (mvT hZ (own_w hw 101 rfl)) (mvT hZ (own_w hw 102 rfl)) (mvT hZ (own_w hw 103 rfl)) (by decide) (backOf (W := 0) (rmAbs l Z a0 hw [] x  h0 n0 Z0 ) hZ (own_w hw 103 rfl) (own_w hw 102 rfl) (by decide) (by decide)) (g := (mkF m 49 #[.val (.long x), .second, .val (.int kk), .val (.ref aT), .val (.ref aH), .val (.long (own_pw kk)), .second] [(.long x)])) rfl (by rw [hml]; rfl) (argsL := [(.long x)]) (rest := []) (lenOf pd_1 rfl) rfl (by show 2 * 0 + _ ≤ _; exact Nat.le_of_eq rfl) (hb hby d17_49) (fun _ _ => ⟨rfl, e6, (by decide : 0 + 0 ≤ _), (by decide : 0 + 0 ≤ _)⟩)
        dsimp only [Pt.U, Pt.locs, Pt.cells, Pt.slots] at X11 l11 y11 z11 st11 hQ11
        subst y11 z11
        obtain ⟨rfl, N11q, e11⟩ := hQ11
        have N11 : Fr n0 L11 := by rw [l11]; exact Fr.app N0 N11q
        have f12 := AH.ext O0.2
        obtain ⟨fs, hr, hrun, hended, hW, hsame⟩ := X11.leave (v := some (.long (x * (own_pw kk)))) (fun h => by rw [Bd.returns] at h; cases h) Bd.notSynchronized
        refine ⟨_, _, pre0 _ ?_, hrun, hended, _, _, rfl, ?_, ⟨_, rfl⟩, hW, hsame.mono (by decide) (by decide)⟩
        · refine pk10 _ ?_
          show Steps p.tables e below (T6.setTop (mkF m 42 #[.val (.long x), .second, .val (.int kk), .val (.ref aT), .val (.ref aH), .val (.long (own_pw kk)), .second] [(.int (lcmpW x (1 : Int64)))])) _
          refine XS.ifYes X6.here hx rfl (pc0 := 42) (pc' := 48) rfl (hb hby d17_42) rfl ((if0 _ _).trans (feq (h3 : ¬ ((lcmpW x (1 : Int64)) = (0 : Int32)))).2) (by decide) (by decide) ?_
          refine XS.lloadN X6.here hx rfl (hb hby d17_48) rfl ?_
          refine st11 _ ?_
          refine XS.aload X11.here hx rfl (hb hby d17_52) rfl rfl ?_
          refine XS.iloadN X11.here hx rfl (hb hby d17_54) rfl ?_
          refine X11.laload hx (j := kk) (v := (.long (own_th kk))) (by rw [e11]; exact f12.1) (State.isArrayOf_alike hZ.alike f12.2.1) f12.2.2 (own_in zH hk0 hk1) (HH _ (own_cl hk0 hk1)) (g := (mkF m 55 #[.val (.long x), .second, .val (.int kk), .val (.ref aT), .val (.ref aH), .val (.long (own_pw kk)), .second] [(.int kk), (.ref aH), (.long (own_abs x))])) rfl rfl (hb hby d17_55) _ ?_
          refine XS.lcmp X11.here hx rfl (hb hby d17_56) rfl ?_
          refine XS.ifNo X11.here hx rfl (hb hby d17_57) rfl ((if0 _ _).trans (flt (hbd : ¬ ((0 : Int32) < (lcmpW (own_abs x) (own_th kk))))).2.2.1) ?_
          refine XS.lloadN X11.here hx rfl (hb hby d17_60) rfl ?_
          refine XS.lload X11.here hx rfl (hb hby d17_61) rfl ?_
          refine XS.lmul X11.here hx rfl (hb hby d17_63) rfl ?_
          show Steps p.tables e below (T11.setTop (mkF m 64 #[.val (.long x), .second, .val (.int kk), .val (.ref aT), .val (.ref aH), .val (.long (own_pw kk)), .second] [(.long (x * (own_pw kk)))])) _
          exact X11.lreturnOut hx Bd.returns (hb hby d17_64) hr
        · show QrmMp Z x kk  h0 n0 _ T11.heap _
          rw [e11]
          exact ⟨rfl, N11, rfl⟩
    · obtain ⟨fs, hr, hrun, hended, hW, hsame⟩ := X0.leave (v := some (.long x)) (fun h => by rw [Bd.returns] at h; cases h) Bd.notSynchronized
      refine ⟨_, _, pre0 _ ?_, hrun, hended, _, _, rfl, ?_, ⟨_, rfl⟩, hW, hsame.mono (by decide) (by decide)⟩
      · refine pk2 _ ?_
        show Steps p.tables e below (s₁.setTop (mkF m 7 #[.val (.long x), .second, .val (.int kk), .unset, .unset, .unset, .unset] [(.int kk)])) _
        refine XS.ifNo X0.here hx rfl (hb hby d17_7) rfl ((if0 _ _).trans (flt (h2 : ¬ ((0 : Int32) < kk))).2.2.1) ?_
        refine XS.lloadN X0.here hx rfl (hb hby d17_10) rfl ?_
        show Steps p.tables e below (s₁.setTop (mkF m 11 #[.val (.long x), .second, .val (.int kk), .unset, .unset, .unset, .unset] [(.long x)])) _
        exact X0.lreturnOut hx Bd.returns (hb hby d17_11) hr
      · show QrmMp Z x kk  h0 n0 _ s₁.heap _
        rw [e0]
        exact ⟨congrArg (fun z => some (Value.long z)) (own_mp1 x h2 hk0), N0, rfl⟩
theorem d36_0 : decode c_5 0 = .ok (.iload_n 0, 1) := by decide +kernel
theorem d36_1 : decode c_5 1 = .ok (.tableswitch 82 0 7 #[58, 60, 62, 72, 82, 82, 82, 47], 47) := by decide +kernel
theorem d36_83 : decode c_5 83 = .ok (.getstatic 311, 3) := by decide +kernel
theorem d36_86 : decode c_5 86 = .ok (.ifCond .ne 45, 3) := by decide +kernel
theorem d36_131 : decode c_5 131 = .ok (.iload_n 2, 1) := by decide +kernel
theorem d36_132 : decode c_5 132 = .ok (.ifCond .ge 5, 3) := by decide +kernel
theorem d36_135 : decode c_5 135 = .ok (.iconst 0, 1) := by decide +kernel
theorem d36_136 : decode c_5 136 = .ok (.ireturn, 1) := by decide +kernel
theorem d36_137 : decode c_5 137 = .ok (.iload_n 2, 1) := by decide +kernel
theorem d36_138 : decode c_5 138 = .ok (.ifCond .le 5, 3) := by decide +kernel
theorem d36_141 : decode c_5 141 = .ok (.iconst 1, 1) := by decide +kernel
theorem d36_142 : decode c_5 142 = .ok (.ireturn, 1) := by decide +kernel
theorem d36_143 : decode c_5 143 = .ok (.getstatic 311, 3) := by decide +kernel
theorem d36_146 : decode c_5 146 = .ok (.ifCond .ne 15, 3) := by decide +kernel
theorem d36_161 : decode c_5 161 = .ok (.iload_n 0, 1) := by decide +kernel
theorem d36_162 : decode c_5 162 = .ok (.tableswitch 38 4 6 #[30, 26, 34], 26) := by decide +kernel
theorem d36_192 : decode c_5 192 = .ok (.iconst 1, 1) := by decide +kernel
theorem d36_193 : decode c_5 193 = .ok (.goto 35, 3) := by decide +kernel
theorem d36_228 : decode c_5 228 = .ok (.ireturn, 1) := by decide +kernel
theorem ef_rmCni (m : MethodId) (x0 : Int32) (x1 : Int32) (x2 : Int32) (x3 : Int32) : entryFrame m #[(.int x0), (.int x1), (.int x2), (.int x3)] 4 = mkF m 0 #[.val (.int x0), .val (.int x1), .val (.int x2), .val (.int x3)] [] := by first | (simp [entryFrame, mkF, argsToLocals, Value.category]; done) | rfl
def QrmCni (Z : State) (p2 : Int32) (p3 : Int32) (p4 : Int32)  (h0 : Heap) (n0 : Nat) (v : Option Value) (h : Heap) (L : List Loc) : Prop := v = some (.int (own_ni p3)) ∧ Fr n0 L ∧ h = h0
theorem rmCni (l : Launch) (Z : State) (a0 : Array Value) (hw : ∀ d ∈ tables_1, d.before a0 Z = true) (ws : List Jvm.Cond) (p2 : Int32) (p3 : Int32) (p4 : Int32)  (h0 : Heap) (n0 : Nat) (Z0 : n0 ≤ h0.size) (J : own_J Z) (O0 : Old Z n0 h0) :
    MetFree l m_19 (head1 (Jvm.Cond.code m_19 jdk_17_method_121_code 4 (some .boolean) :: ws) ({ frames := 0, cells := 0, slots := 0, locals := 0 } : Room)) (fun a U => a = #[(.int (4 : Int32)), (.int p2), (.int p3), (.int p4)] ∧ Z.Warmed39 U.vm ∧ U.heap = h0) (fun _ _ _ _ _ => True) (fun _ U o U' => ∃ v L, o = .returned v ∧ QrmCni Z p2 p3 p4  h0 n0 v U'.heap L ∧ FrameEnd U o U' L ({ frames := 0, cells := 0, slots := 0, locals := 0 } : Room).cells ({ frames := 0, cells := 0, slots := 0, locals := 0 } : Room).slots) := by
  refine MetFree.of_bodySF (plainFor_of_name pn_java_math_BigDecimal) hisR ?_
  intro p e s m args below meth c s₁ Bd hml0 hP hK
  obtain ⟨rfl, hZ, hh⟩ := hP
  have hx := Bd.exec
  have hby := Bd.bytes
  have hml : c.maxLocals = 4 := hml0
  have hown : s.vm.findClass "java/math/BigDecimal" = some m.cls := findClass_of_methodNamed Bd.named
  have hnm := (name_of_methodNamed Bd.named Bd.method).1
  have X0 : Stand p l e ({ frames := 0, cells := 0, slots := 0, locals := 0 } : Room) s m #[(.int (4 : Int32)), (.int p2), (.int p3), (.int p4)] below meth c s₁ [] 0 0 := Stand.of_body Bd
  have e0 : s₁.heap = h0 := by rw [← hh, Bd.state]; rfl
  have N0 := Fr.nil n0
  have pre0 : ∀ t, Steps p.tables e below (s₁.setTop (mkF m 0 #[.val (.int (4 : Int32)), .val (.int p2), .val (.int p3), .val (.int p4)] [])) t → Steps p.tables e below (s₁.setTop (entryFrame m #[(.int (4 : Int32)), (.int p2), (.int p3), (.int p4)] 4)) t := fun t k => castTop (ef_rmCni m (4 : Int32) p2 p3 p4) k
  have f1 := J.asrt.ext O0.2
  obtain ⟨T2, X2, e2, st2⟩ := getS2 X0 hx hZ hown (host := "") (Or.inl (own_w hw 182 rfl)) Via.refl e0 f1 (g := (mkF m 83 #[.val (.int (4 : Int32)), .val (.int p2), .val (.int p3), .val (.int p4)] [])) rfl (hb hby d36_83)
  have pk3 : ∀ target, Steps p.tables e below (T2.setTop (mkF m 132 #[.val (.int (4 : Int32)), .val (.int p2), .val (.int p3), .val (.int p4)] [(.int p3)])) target → Steps p.tables e below (s₁.setTop (mkF m 0 #[.val (.int (4 : Int32)), .val (.int p2), .val (.int p3), .val (.int p4)] [])) target := by
    intro target kt
    show Steps p.tables e below (s₁.setTop (mkF m 0 #[.val (.int (4 : Int32)), .val (.int p2), .val (.int p3), .val (.int p4)] [])) _
    refine XS.iloadN X0.here hx rfl (hb hby d36_0) rfl ?_
    refine XS.tswIn X0.here hx rfl (pc0 := 1) (pc' := 83) rfl (hb hby d36_1) rfl (by decide) (by rfl) (by decide) (by rfl) ?_
    refine st2 _ ?_
    refine XS.ifYes X2.here hx rfl (pc0 := 86) (pc' := 131) rfl (hb hby d36_86) rfl ((if0 _ _).trans (feq (by decide : ¬ ((1 : Int32) = (0 : Int32)))).2) (by decide) (by decide) ?_
    refine XS.iloadN X2.here hx rfl (hb hby d36_131) rfl ?_
    exact kt
  by_cases h1 : p3 < (0 : Int32)
  · obtain ⟨fs, hr, hrun, hended, hW, hsame⟩ := X2.leave (v := some (.int (0 : Int32))) (fun h => by rw [Bd.returns] at h; cases h) Bd.notSynchronized
    refine ⟨_, _, pre0 _ ?_, hrun, hended, _, _, rfl, ?_, ⟨_, rfl⟩, hW, hsame.mono (by decide) (by decide)⟩
    · refine pk3 _ ?_
      show Steps p.tables e below (T2.setTop (mkF m 132 #[.val (.int (4 : Int32)), .val (.int p2), .val (.int p3), .val (.int p4)] [(.int p3)])) _
      refine XS.ifNo X2.here hx rfl (hb hby d36_132) rfl ((if0 _ _).trans (tlt (h1 : p3 < (0 : Int32))).2.1) ?_
      refine XS.iconst X2.here hx rfl (hb hby d36_135) ?_
      show Steps p.tables e below (T2.setTop (mkF m 136 #[.val (.int (4 : Int32)), .val (.int p2), .val (.int p3), .val (.int p4)] [(.int (0 : Int32))])) _
      exact retN X2 hx (t := .boolean) Bd.returns (by simp) (hb hby d36_136) hr
    · show QrmCni Z p2 p3 p4  h0 n0 _ T2.heap _
      rw [e2]
      exact ⟨by rw [own_ni, if_pos h1], N0, rfl⟩
  · have pk4 : ∀ target, Steps p.tables e below (T2.setTop (mkF m 138 #[.val (.int (4 : Int32)), .val (.int p2), .val (.int p3), .val (.int p4)] [(.int p3)])) target → Steps p.tables e below (s₁.setTop (mkF m 0 #[.val (.int (4 : Int32)), .val (.int p2), .val (.int p3), .val (.int p4)] [])) target := by
      intro target kt
      refine pk3 _ ?_
      show Steps p.tables e below (T2.setTop (mkF m 132 #[.val (.int (4 : Int32)), .val (.int p2), .val (.int p3), .val (.int p4)] [(.int p3)])) _
      refine XS.ifYes X2.here hx rfl (pc0 := 132) (pc' := 137) rfl (hb hby d36_132) rfl ((if0 _ _).trans (flt (h1 : ¬ (p3 < (0 : Int32)))).2.1) (by decide) (by decide) ?_
      refine XS.iloadN X2.here hx rfl (hb hby d36_137) rfl ?_
      exact kt
    by_cases h2 : (0 : Int32) < p3
    · obtain ⟨fs, hr, hrun, hended, hW, hsame⟩ := X2.leave (v := some (.int (1 : Int32))) (fun h => by rw [Bd.returns] at h; cases h) Bd.notSynchronized
      refine ⟨_, _, pre0 _ ?_, hrun, hended, _, _, rfl, ?_, ⟨_, rfl⟩, hW, hsame.mono (by decide) (by decide)⟩
      · refine pk4 _ ?_
        show Steps p.tables e below (T2.setTop (mkF m 138 #[.val (.int (4 : Int32)), .val (.int p2), .val (.int p3), .val (.int p4)] [(.int p3)])) _
        refine XS.ifNo X2.here hx rfl (hb hby d36_138) rfl ((if0 _ _).trans (tlt (h2 : (0 : Int32) < p3)).2.2.2) ?_
        refine XS.iconst X2.here hx rfl (hb hby d36_141) ?_
        show Steps p.tables e below (T2.setTop (mkF m 142 #[.val (.int (4 : Int32)), .val (.int p2), .val (.int p3), .val (.int p4)] [(.int (1 : Int32))])) _
        exact retN X2 hx (t := .boolean) Bd.returns (by simp) (hb hby d36_142) hr
      · show QrmCni Z p2 p3 p4  h0 n0 _ T2.heap _
        rw [e2]
        exact ⟨by rw [own_ni, if_neg h1], N0, rfl⟩
    · obtain ⟨T5, X5, e5, st5⟩ := getS2 X2 hx hZ hown (host := "") (Or.inl (own_w hw 182 rfl)) Via.refl e2 f1 (g := (mkF m 143 #[.val (.int (4 : Int32)), .val (.int p2), .val (.int p3), .val (.int p4)] [])) rfl (hb hby d36_143)
      obtain ⟨fs, hr, hrun, hended, hW, hsame⟩ := X5.leave (v := some (.int (1 : Int32))) (fun h => by rw [Bd.returns] at h; cases h) Bd.notSynchronized
      refine ⟨_, _, pre0 _ ?_, hrun, hended, _, _, rfl, ?_, ⟨_, rfl⟩, hW, hsame.mono (by decide) (by decide)⟩
      · refine pk4 _ ?_
        show Steps p.tables e below (T2.setTop (mkF m 138 #[.val (.int (4 : Int32)), .val (.int p2), .val (.int p3), .val (.int p4)] [(.int p3)])) _
        refine XS.ifYes X2.here hx rfl (pc0 := 138) (pc' := 143) rfl (hb hby d36_138) rfl ((if0 _ _).trans (flt (h2 : ¬ ((0 : Int32) < p3))).2.2.2) (by decide) (by decide) ?_
        refine st5 _ ?_
        refine XS.ifYes X5.here hx rfl (pc0 := 146) (pc' := 161) rfl (hb hby d36_146) rfl ((if0 _ _).trans (feq (by decide : ¬ ((1 : Int32) = (0 : Int32)))).2) (by decide) (by decide) ?_
        refine XS.iloadN X5.here hx rfl (hb hby d36_161) rfl ?_
        refine XS.tswIn X5.here hx rfl (pc0 := 162) (pc' := 192) rfl (hb hby d36_162) rfl (by decide) (by rfl) (by decide) (by rfl) ?_
        refine XS.iconst X5.here hx rfl (hb hby d36_192) ?_
        refine XS.goto X5.here hx rfl (pc0 := 193) (pc' := 228) rfl (hb hby d36_193) (by decide) (by decide) ?_
        show Steps p.tables e below (T5.setTop (mkF m 228 #[.val (.int (4 : Int32)), .val (.int p2), .val (.int p3), .val (.int p4)] [(.int (1 : Int32))])) _
        exact retN X5 hx (t := .boolean) Bd.returns (by simp) (hb hby d36_228) hr
      · show QrmCni Z p2 p3 p4  h0 n0 _ T5.heap _
        rw [e5]
        exact ⟨by rw [own_ni, if_neg h1], N0, rfl⟩
theorem d33_0 : decode c_6 0 = .ok (.getstatic 311, 3) := by decide +kernel
theorem d33_3 : decode c_6 3 = .ok (.ifCond .ne 18, 3) := by decide +kernel
theorem d33_21 : decode c_6 21 = .ok (.lload 6, 2) := by decide +kernel
theorem d33_23 : decode c_6 23 = .ok (.ldc2_w 933, 3) := by decide +kernel
theorem d33_26 : decode c_6 26 = .ok (.lcmp, 1) := by decide +kernel
theorem d33_27 : decode c_6 27 = .ok (.ifCond .le 12, 3) := by decide +kernel
theorem d33_30 : decode c_6 30 = .ok (.lload 6, 2) := by decide +kernel
theorem d33_32 : decode c_6 32 = .ok (.ldc2_w 935, 3) := by decide +kernel
theorem d33_35 : decode c_6 35 = .ok (.lcmp, 1) := by decide +kernel
theorem d33_36 : decode c_6 36 = .ok (.ifCond .le 9, 3) := by decide +kernel
theorem d33_45 : decode c_6 45 = .ok (.ldc2_w 318, 3) := by decide +kernel
theorem d33_48 : decode c_6 48 = .ok (.lload 6, 2) := by decide +kernel
theorem d33_50 : decode c_6 50 = .ok (.lmul, 1) := by decide +kernel
theorem d33_51 : decode c_6 51 = .ok (.lload_n 0, 1) := by decide +kernel
theorem d33_52 : decode c_6 52 = .ok (.invokestatic 632, 3) := by decide +kernel
theorem d33_55 : decode c_6 55 = .ok (.istore 8, 2) := by decide +kernel
theorem d33_57 : decode c_6 57 = .ok (.iload_n 2, 1) := by decide +kernel
theorem d33_58 : decode c_6 58 = .ok (.iload_n 3, 1) := by decide +kernel
theorem d33_59 : decode c_6 59 = .ok (.iload 8, 2) := by decide +kernel
theorem d33_61 : decode c_6 61 = .ok (.lload 4, 2) := by decide +kernel
theorem d33_63 : decode c_6 63 = .ok (.lconst 1, 1) := by decide +kernel
theorem d33_64 : decode c_6 64 = .ok (.land, 1) := by decide +kernel
theorem d33_65 : decode c_6 65 = .ok (.lconst 0, 1) := by decide +kernel
theorem d33_66 : decode c_6 66 = .ok (.lcmp, 1) := by decide +kernel
theorem d33_67 : decode c_6 67 = .ok (.ifCond .eq 7, 3) := by decide +kernel
theorem d33_74 : decode c_6 74 = .ok (.iconst 0, 1) := by decide +kernel
theorem d33_75 : decode c_6 75 = .ok (.invokestatic 937, 3) := by decide +kernel
theorem pd_2 : parseMethodDescriptor "(IIIZ)Z" = some ⟨[.int, .int, .int, .boolean], some .boolean⟩ := by decide +kernel
theorem d33_78 : decode c_6 78 = .ok (.ireturn, 1) := by decide +kernel
theorem d33_70 : decode c_6 70 = .ok (.iconst 1, 1) := by decide +kernel
theorem d33_71 : decode c_6 71 = .ok (.goto 4, 3) := by decide +kernel
theorem ef_rmNeed (m : MethodId) (x0 : Int64) (x1 : Int32) (x2 : Int32) (x3 : Int64) (x4 : Int64) : entryFrame m #[(.long x0), (.int x1), (.int x2), (.long x3), (.long x4)] 9 = mkF m 0 #[.val (.long x0), .second, .val (.int x1), .val (.int x2), .val (.long x3), .second, .val (.long x4), .second, .unset] [] := by first | (simp [entryFrame, mkF, argsToLocals, Value.category]; done) | rfl
def QrmNeed (Z : State) (d : Int64) (qs : Int32) (q : Int64) (r : Int64)  (h0 : Heap) (n0 : Nat) (v : Option Value) (h : Heap) (L : List Loc) : Prop := v = some (.int (own_ni (own_lc (own_abs ((2 : Int64) * r)) (own_abs d)))) ∧ Fr n0 L ∧ h = h0
theorem rmNeed (l : Launch) (Z : State) (a0 : Array Value) (hw : ∀ d ∈ tables_1, d.before a0 Z = true) (ws : List Jvm.Cond) (d : Int64) (qs : Int32) (q : Int64) (r : Int64)  (h0 : Heap) (n0 : Nat) (Z0 : n0 ≤ h0.size) (J : own_J Z) (O0 : Old Z n0 h0) (hr1 : (0 : Int32) < lcmpW r (-4611686018427387904 : Int64)) (hr2 : ¬ ((0 : Int32) < lcmpW r (4611686018427387903 : Int64))) :
    MetFree l m_20 (head1 (Jvm.Cond.code m_20 jdk_17_method_122_code 9 (some .boolean) :: ws) ({ frames := 2, cells := 0, slots := 0, locals := 30 } : Room)) (fun a U => a = #[(.long d), (.int (4 : Int32)), (.int qs), (.long q), (.long r)] ∧ Z.Warmed39 U.vm ∧ U.heap = h0) (fun _ _ _ _ _ => True) (fun _ U o U' => ∃ v L, o = .returned v ∧ QrmNeed Z d qs q r  h0 n0 v U'.heap L ∧ FrameEnd U o U' L ({ frames := 2, cells := 0, slots := 0, locals := 30 } : Room).cells ({ frames := 2, cells := 0, slots := 0, locals := 30 } : Room).slots) := by
  refine MetFree.of_bodySF (plainFor_of_name pn_java_math_BigDecimal) hisR ?_
  intro p e s m args below meth c s₁ Bd hml0 hP hK
  obtain ⟨rfl, hZ, hh⟩ := hP
  have hx := Bd.exec
  have hby := Bd.bytes
  have hml : c.maxLocals = 9 := hml0
  have hown : s.vm.findClass "java/math/BigDecimal" = some m.cls := findClass_of_methodNamed Bd.named
  have hnm := (name_of_methodNamed Bd.named Bd.method).1
  have X0 : Stand p l e ({ frames := 2, cells := 0, slots := 0, locals := 30 } : Room) s m #[(.long d), (.int (4 : Int32)), (.int qs), (.long q), (.long r)] below meth c s₁ [] 0 0 := Stand.of_body Bd
  have e0 : s₁.heap = h0 := by rw [← hh, Bd.state]; rfl
  have N0 := Fr.nil n0
  have pre0 : ∀ t, Steps p.tables e below (s₁.setTop (mkF m 0 #[.val (.long d), .second, .val (.int (4 : Int32)), .val (.int qs), .val (.long q), .second, .val (.long r), .second, .unset] [])) t → Steps p.tables e below (s₁.setTop (entryFrame m #[(.long d), (.int (4 : Int32)), (.int qs), (.long q), (.long r)] 9)) t := fun t k => castTop (ef_rmNeed m d (4 : Int32) qs q r) k
  have f1 := J.asrt.ext O0.2
  obtain ⟨T2, X2, e2, st2⟩ := getS2 X0 hx hZ hown (host := "") (Or.inl (own_w hw 182 rfl)) Via.refl e0 f1 (g := (mkF m 0 #[.val (.long d), .second, .val (.int (4 : Int32)), .val (.int qs), .val (.long q), .second, .val (.long r), .second, .unset] [])) rfl (hb hby d33_0)
  obtain ⟨_, _, ⟨T3, L3, k3, n3⟩, -, X3, ⟨Lc3, hQ3, l3, y3, z3⟩, st3⟩ := Jvm.LawKit.callS X2 hx (y := m_18) hown (mvT hZ (own_w hw 186 rfl)) (mvT hZ (own_w hw 187 rfl)) (mvT hZ (own_w hw 9 rfl)) (mvT hZ (own_w hw 188 rfl)) (by decide) (backOf (W := 0) (rmLcm l Z a0 hw [] ((2 : Int64) * r) d  h0 n0 Z0 ) hZ (own_w hw 188 rfl) (own_w hw 9 rfl) (by decide) (by decide)) (g := (mkF m 52 #[.val (.long d), .second, .val (.int (4 : Int32)), .val (.int qs), .val (.long q), .second, .val (.long r), .second, .unset] [(.long d), (.long ((2 : Int64) * r))])) rfl (by rw [hml]; rfl) (argsL := [(.long ((2 : Int64) * r)), (.long d)]) (rest := []) (lenOf pd_0 rfl) rfl (by show 2 * 0 + _ ≤ _; exact Nat.le_of_eq rfl) (hb hby d33_52) (fun _ _ => ⟨rfl, e2, (by decide : 0 + 0 ≤ _), (by decide : 0 + 0 ≤ _)⟩)
  dsimp only [Pt.U, Pt.locs, Pt.cells, Pt.slots] at X3 l3 y3 z3 st3 hQ3
  subst y3 z3
  obtain ⟨rfl, N3q, e3⟩ := hQ3
  have N3 : Fr n0 L3 := by rw [l3]; exact Fr.app N0 N3q
  have pk4 : ∀ target, Steps p.tables e below (T3.setTop (mkF m 67 #[.val (.long d), .second, .val (.int (4 : Int32)), .val (.int qs), .val (.long q), .second, .val (.long r), .second, .val (.int (own_lc (own_abs ((2 : Int64) * r)) (own_abs d)))] [(.int (lcmpW (q &&& (1 : Int64)) (0 : Int64))), (.int (own_lc (own_abs ((2 : Int64) * r)) (own_abs d))), (.int qs), (.int (4 : Int32))])) target → Steps p.tables e below (s₁.setTop (mkF m 0 #[.val (.long d), .second, .val (.int (4 : Int32)), .val (.int qs), .val (.long q), .second, .val (.long r), .second, .unset] [])) target := by
    intro target kt
    refine st2 _ ?_
    show Steps p.tables e below (T2.setTop (mkF m 3 #[.val (.long d), .second, .val (.int (4 : Int32)), .val (.int qs), .val (.long q), .second, .val (.long r), .second, .unset] [(.int (1 : Int32))])) _
    refine XS.ifYes X2.here hx rfl (pc0 := 3) (pc' := 21) rfl (hb hby d33_3) rfl ((if0 _ _).trans (feq (by decide : ¬ ((1 : Int32) = (0 : Int32)))).2) (by decide) (by decide) ?_
    refine XS.lload X2.here hx rfl (hb hby d33_21) rfl ?_
    refine X2.ldc2Long hx hown (mvT hZ (own_w hw 183 rfl)) (g := (mkF m 23 #[.val (.long d), .second, .val (.int (4 : Int32)), .val (.int qs), .val (.long q), .second, .val (.long r), .second, .unset] [(.long r)])) rfl (hb hby d33_23) _ ?_
    refine XS.lcmp X2.here hx rfl (hb hby d33_26) rfl ?_
    refine XS.ifNo X2.here hx rfl (hb hby d33_27) rfl ((if0 _ _).trans (tlt (hr1 : (0 : Int32) < (lcmpW r (-4611686018427387904 : Int64)))).2.2.2) ?_
    refine XS.lload X2.here hx rfl (hb hby d33_30) rfl ?_
    refine X2.ldc2Long hx hown (mvT hZ (own_w hw 184 rfl)) (g := (mkF m 32 #[.val (.long d), .second, .val (.int (4 : Int32)), .val (.int qs), .val (.long q), .second, .val (.long r), .second, .unset] [(.long r)])) rfl (hb hby d33_32) _ ?_
    refine XS.lcmp X2.here hx rfl (hb hby d33_35) rfl ?_
    refine XS.ifYes X2.here hx rfl (pc0 := 36) (pc' := 45) rfl (hb hby d33_36) rfl ((if0 _ _).trans (flt (hr2 : ¬ ((0 : Int32) < (lcmpW r (4611686018427387903 : Int64))))).2.2.2) (by decide) (by decide) ?_
    refine X2.ldc2Long hx hown (mvT hZ (own_w hw 185 rfl)) (g := (mkF m 45 #[.val (.long d), .second, .val (.int (4 : Int32)), .val (.int qs), .val (.long q), .second, .val (.long r), .second, .unset] [])) rfl (hb hby d33_45) _ ?_
    refine XS.lload X2.here hx rfl (hb hby d33_48) rfl ?_
    refine XS.lmul X2.here hx rfl (hb hby d33_50) rfl ?_
    refine XS.lloadN X2.here hx rfl (hb hby d33_51) rfl ?_
    refine st3 _ ?_
    refine XS.istore X3.here hx rfl (hb hby d33_55) rfl (l' := #[.val (.long d), .second, .val (.int (4 : Int32)), .val (.int qs), .val (.long q), .second, .val (.long r), .second, .val (.int (own_lc (own_abs ((2 : Int64) * r)) (own_abs d)))]) rfl ?_
    refine XS.iloadN X3.here hx rfl (hb hby d33_57) rfl ?_
    refine XS.iloadN X3.here hx rfl (hb hby d33_58) rfl ?_
    refine XS.iload X3.here hx rfl (hb hby d33_59) rfl ?_
    refine XS.lload X3.here hx rfl (hb hby d33_61) rfl ?_
    refine XS.lconst X3.here hx rfl (hb hby d33_63) ?_
    refine XS.land X3.here hx rfl (hb hby d33_64) rfl ?_
    refine XS.lconst X3.here hx rfl (hb hby d33_65) ?_
    refine XS.lcmp X3.here hx rfl (hb hby d33_66) rfl ?_
    exact kt
  by_cases h1 : (lcmpW (q &&& (1 : Int64)) (0 : Int64)) = (0 : Int32)
  · obtain ⟨_, _, ⟨T5, L5, k5, n5⟩, -, X5, ⟨Lc5, hQ5, l5, y5, z5⟩, st5⟩ := Jvm.LawKit.callS X3 hx (y := m_19) hown (mvT hZ (own_w hw 192 rfl)) (mvT hZ (own_w hw 193 rfl)) (mvT hZ (own_w hw 9 rfl)) (mvT hZ (own_w hw 194 rfl)) (by decide) (backOf (W := 0) (rmCni l Z a0 hw [] qs (own_lc (own_abs ((2 : Int64) * r)) (own_abs d)) (0 : Int32)  h0 n0 Z0 J O0) hZ (own_w hw 194 rfl) (own_w hw 9 rfl) (by decide) (by decide)) (g := (mkF m 75 #[.val (.long d), .second, .val (.int (4 : Int32)), .val (.int qs), .val (.long q), .second, .val (.long r), .second, .val (.int (own_lc (own_abs ((2 : Int64) * r)) (own_abs d)))] [(.int (0 : Int32)), (.int (own_lc (own_abs ((2 : Int64) * r)) (own_abs d))), (.int qs), (.int (4 : Int32))])) rfl (by rw [hml]; rfl) (argsL := [(.int (4 : Int32)), (.int qs), (.int (own_lc (own_abs ((2 : Int64) * r)) (own_abs d))), (.int (0 : Int32))]) (rest := []) (lenOf pd_2 rfl) rfl (by show 2 * 0 + _ ≤ _; exact Nat.le_of_eq rfl) (hb hby d33_75) (fun _ _ => ⟨rfl, e3, (by decide : 0 + 0 ≤ _), (by decide : 0 + 0 ≤ _)⟩)
    dsimp only [Pt.U, Pt.locs, Pt.cells, Pt.slots] at X5 l5 y5 z5 st5 hQ5
    subst y5 z5
    obtain ⟨rfl, N5q, e5⟩ := hQ5
    have N5 : Fr n0 L5 := by rw [l5]; exact Fr.app N3 N5q
    obtain ⟨fs, hr, hrun, hended, hW, hsame⟩ := X5.leave (v := some (.int (own_ni (own_lc (own_abs ((2 : Int64) * r)) (own_abs d))))) (fun h => by rw [Bd.returns] at h; cases h) Bd.notSynchronized
    refine ⟨_, _, pre0 _ ?_, hrun, hended, _, _, rfl, ?_, ⟨_, rfl⟩, hW, hsame.mono (by decide) (by decide)⟩
    · refine pk4 _ ?_
      show Steps p.tables e below (T3.setTop (mkF m 67 #[.val (.long d), .second, .val (.int (4 : Int32)), .val (.int qs), .val (.long q), .second, .val (.long r), .second, .val (.int (own_lc (own_abs ((2 : Int64) * r)) (own_abs d)))] [(.int (lcmpW (q &&& (1 : Int64)) (0 : Int64))), (.int (own_lc (own_abs ((2 : Int64) * r)) (own_abs d))), (.int qs), (.int (4 : Int32))])) _
      refine XS.ifYes X3.here hx rfl (pc0 := 67) (pc' := 74) rfl (hb hby d33_67) rfl ((if0 _ _).trans (teq (h1 : (lcmpW (q &&& (1 : Int64)) (0 : Int64)) = (0 : Int32))).1) (by decide) (by decide) ?_
      refine XS.iconst X3.here hx rfl (hb hby d33_74) ?_
      refine st5 _ ?_
      show Steps p.tables e below (T5.setTop (mkF m 78 #[.val (.long d), .second, .val (.int (4 : Int32)), .val (.int qs), .val (.long q), .second, .val (.long r), .second, .val (.int (own_lc (own_abs ((2 : Int64) * r)) (own_abs d)))] [(.int (own_ni (own_lc (own_abs ((2 : Int64) * r)) (own_abs d))))])) _
      exact retN X5 hx (t := .boolean) Bd.returns (by simp) (hb hby d33_78) (by rw [own_nib]; exact hr)
    · show QrmNeed Z d qs q r  h0 n0 _ T5.heap _
      rw [e5]
      exact ⟨rfl, N5, rfl⟩
  · obtain ⟨_, _, ⟨T5, L5, k5, n5⟩, -, X5, ⟨Lc5, hQ5, l5, y5, z5⟩, st5⟩ := Jvm.LawKit.callS X3 hx (y := m_19) hown (mvT hZ (own_w hw 192 rfl)) (mvT hZ (own_w hw 193 rfl)) (mvT hZ (own_w hw 9 rfl)) (mvT hZ (own_w hw 194 rfl)) (by decide) (backOf (W := 0) (rmCni l Z a0 hw [] qs (own_lc (own_abs ((2 : Int64) * r)) (own_abs d)) (1 : Int32)  h0 n0 Z0 J O0) hZ (own_w hw 194 rfl) (own_w hw 9 rfl) (by decide) (by decide)) (g := (mkF m 75 #[.val (.long d), .second, .val (.int (4 : Int32)), .val (.int qs), .val (.long q), .second, .val (.long r), .second, .val (.int (own_lc (own_abs ((2 : Int64) * r)) (own_abs d)))] [(.int (1 : Int32)), (.int (own_lc (own_abs ((2 : Int64) * r)) (own_abs d))), (.int qs), (.int (4 : Int32))])) rfl (by rw [hml]; rfl) (argsL := [(.int (4 : Int32)), (.int qs), (.int (own_lc (own_abs ((2 : Int64) * r)) (own_abs d))), (.int (1 : Int32))]) (rest := []) (lenOf pd_2 rfl) rfl (by show 2 * 0 + _ ≤ _; exact Nat.le_of_eq rfl) (hb hby d33_75) (fun _ _ => ⟨rfl, e3, (by decide : 0 + 0 ≤ _), (by decide : 0 + 0 ≤ _)⟩)
    dsimp only [Pt.U, Pt.locs, Pt.cells, Pt.slots] at X5 l5 y5 z5 st5 hQ5
    subst y5 z5
    obtain ⟨rfl, N5q, e5⟩ := hQ5
    have N5 : Fr n0 L5 := by rw [l5]; exact Fr.app N3 N5q
    obtain ⟨fs, hr, hrun, hended, hW, hsame⟩ := X5.leave (v := some (.int (own_ni (own_lc (own_abs ((2 : Int64) * r)) (own_abs d))))) (fun h => by rw [Bd.returns] at h; cases h) Bd.notSynchronized
    refine ⟨_, _, pre0 _ ?_, hrun, hended, _, _, rfl, ?_, ⟨_, rfl⟩, hW, hsame.mono (by decide) (by decide)⟩
    · refine pk4 _ ?_
      show Steps p.tables e below (T3.setTop (mkF m 67 #[.val (.long d), .second, .val (.int (4 : Int32)), .val (.int qs), .val (.long q), .second, .val (.long r), .second, .val (.int (own_lc (own_abs ((2 : Int64) * r)) (own_abs d)))] [(.int (lcmpW (q &&& (1 : Int64)) (0 : Int64))), (.int (own_lc (own_abs ((2 : Int64) * r)) (own_abs d))), (.int qs), (.int (4 : Int32))])) _
      refine XS.ifNo X3.here hx rfl (hb hby d33_67) rfl ((if0 _ _).trans (feq (h1 : ¬ ((lcmpW (q &&& (1 : Int64)) (0 : Int64)) = (0 : Int32)))).1) ?_
      refine XS.iconst X3.here hx rfl (hb hby d33_70) ?_
      refine XS.goto X3.here hx rfl (pc0 := 71) (pc' := 75) rfl (hb hby d33_71) (by decide) (by decide) ?_
      refine st5 _ ?_
      show Steps p.tables e below (T5.setTop (mkF m 78 #[.val (.long d), .second, .val (.int (4 : Int32)), .val (.int qs), .val (.long q), .second, .val (.long r), .second, .val (.int (own_lc (own_abs ((2 : Int64) * r)) (own_abs d)))] [(.int (own_ni (own_lc (own_abs ((2 : Int64) * r)) (own_abs d))))])) _
      exact retN X5 hx (t := .boolean) Bd.returns (by simp) (hb hby d33_78) (by rw [own_nib]; exact hr)
    · show QrmNeed Z d qs q r  h0 n0 _ T5.heap _
      rw [e5]
      exact ⟨rfl, N5, rfl⟩
def own_nlz (x : Int32) : Int32 := (if (0 : Int32) < x then (if x < (65536 : Int32) then (if x < (256 : Int32) then (if x < (16 : Int32) then (if x < (4 : Int32) then ((31 : Int32) - (own_u x (1 : Int32))) else (((31 : Int32) + (-2 : Int32)) - (own_u (own_u x (2 : Int32)) (1 : Int32)))) else (if (own_u x (4 : Int32)) < (4 : Int32) then (((31 : Int32) + (-4 : Int32)) - (own_u (own_u x (4 : Int32)) (1 : Int32))) else ((((31 : Int32) + (-4 : Int32)) + (-2 : Int32)) - (own_u (own_u (own_u x (4 : Int32)) (2 : Int32)) (1 : Int32))))) else (if (own_u x (8 : Int32)) < (16 : Int32) then (if (own_u x (8 : Int32)) < (4 : Int32) then (((31 : Int32) + (-8 : Int32)) - (own_u (own_u x (8 : Int32)) (1 : Int32))) else ((((31 : Int32) + (-8 : Int32)) + (-2 : Int32)) - (own_u (own_u (own_u x (8 : Int32)) (2 : Int32)) (1 : Int32)))) else (if (own_u (own_u x (8 : Int32)) (4 : Int32)) < (4 : Int32) then ((((31 : Int32) + (-8 : Int32)) + (-4 : Int32)) - (own_u (own_u (own_u x (8 : Int32)) (4 : Int32)) (1 : Int32))) else (((((31 : Int32) + (-8 : Int32)) + (-4 : Int32)) + (-2 : Int32)) - (own_u (own_u (own_u (own_u x (8 : Int32)) (4 : Int32)) (2 : Int32)) (1 : Int32)))))) else (if (own_u x (16 : Int32)) < (256 : Int32) then (if (own_u x (16 : Int32)) < (16 : Int32) then (if (own_u x (16 : Int32)) < (4 : Int32) then (((31 : Int32) + (-16 : Int32)) - (own_u (own_u x (16 : Int32)) (1 : Int32))) else ((((31 : Int32) + (-16 : Int32)) + (-2 : Int32)) - (own_u (own_u (own_u x (16 : Int32)) (2 : Int32)) (1 : Int32)))) else (if (own_u (own_u x (16 : Int32)) (4 : Int32)) < (4 : Int32) then ((((31 : Int32) + (-16 : Int32)) + (-4 : Int32)) - (own_u (own_u (own_u x (16 : Int32)) (4 : Int32)) (1 : Int32))) else (((((31 : Int32) + (-16 : Int32)) + (-4 : Int32)) + (-2 : Int32)) - (own_u (own_u (own_u (own_u x (16 : Int32)) (4 : Int32)) (2 : Int32)) (1 : Int32))))) else (if (own_u (own_u x (16 : Int32)) (8 : Int32)) < (16 : Int32) then (if (own_u (own_u x (16 : Int32)) (8 : Int32)) < (4 : Int32) then ((((31 : Int32) + (-16 : Int32)) + (-8 : Int32)) - (own_u (own_u (own_u x (16 : Int32)) (8 : Int32)) (1 : Int32))) else (((((31 : Int32) + (-16 : Int32)) + (-8 : Int32)) + (-2 : Int32)) - (own_u (own_u (own_u (own_u x (16 : Int32)) (8 : Int32)) (2 : Int32)) (1 : Int32)))) else (if (own_u (own_u (own_u x (16 : Int32)) (8 : Int32)) (4 : Int32)) < (4 : Int32) then (((((31 : Int32) + (-16 : Int32)) + (-8 : Int32)) + (-4 : Int32)) - (own_u (own_u (own_u (own_u x (16 : Int32)) (8 : Int32)) (4 : Int32)) (1 : Int32))) else ((((((31 : Int32) + (-16 : Int32)) + (-8 : Int32)) + (-4 : Int32)) + (-2 : Int32)) - (own_u (own_u (own_u (own_u (own_u x (16 : Int32)) (8 : Int32)) (4 : Int32)) (2 : Int32)) (1 : Int32))))))) else (if x = (0 : Int32) then (32 : Int32) else (0 : Int32)))
theorem d42_0 : decode c_30 0 = .ok (.iload_n 0, 1) := by decide +kernel
theorem d42_1 : decode c_30 1 = .ok (.ifCond .gt 14, 3) := by decide +kernel
theorem d42_15 : decode c_30 15 = .ok (.bipush 31, 2) := by decide +kernel
theorem d42_17 : decode c_30 17 = .ok (.istore_n 1, 1) := by decide +kernel
theorem d42_18 : decode c_30 18 = .ok (.iload_n 0, 1) := by decide +kernel
theorem d42_19 : decode c_30 19 = .ok (.ldc_w 264, 3) := by decide +kernel
theorem d42_22 : decode c_30 22 = .ok (.if_icmp .lt 11, 3) := by decide +kernel
theorem d42_33 : decode c_30 33 = .ok (.iload_n 0, 1) := by decide +kernel
theorem d42_34 : decode c_30 34 = .ok (.sipush 256, 3) := by decide +kernel
theorem d42_37 : decode c_30 37 = .ok (.if_icmp .lt 11, 3) := by decide +kernel
theorem d42_48 : decode c_30 48 = .ok (.iload_n 0, 1) := by decide +kernel
theorem d42_49 : decode c_30 49 = .ok (.bipush 16, 2) := by decide +kernel
theorem d42_51 : decode c_30 51 = .ok (.if_icmp .lt 10, 3) := by decide +kernel
theorem d42_61 : decode c_30 61 = .ok (.iload_n 0, 1) := by decide +kernel
theorem d42_62 : decode c_30 62 = .ok (.iconst 4, 1) := by decide +kernel
theorem d42_63 : decode c_30 63 = .ok (.if_icmp .lt 10, 3) := by decide +kernel
theorem d42_73 : decode c_30 73 = .ok (.iload_n 1, 1) := by decide +kernel
theorem d42_74 : decode c_30 74 = .ok (.iload_n 0, 1) := by decide +kernel
theorem d42_75 : decode c_30 75 = .ok (.iconst 1, 1) := by decide +kernel
theorem d42_76 : decode c_30 76 = .ok (.iushr, 1) := by decide +kernel
theorem d42_77 : decode c_30 77 = .ok (.isub, 1) := by decide +kernel
theorem d42_78 : decode c_30 78 = .ok (.ireturn, 1) := by decide +kernel
theorem d42_66 : decode c_30 66 = .ok (.iinc 1 (-2), 3) := by decide +kernel
theorem d42_69 : decode c_30 69 = .ok (.iload_n 0, 1) := by decide +kernel
theorem d42_70 : decode c_30 70 = .ok (.iconst 2, 1) := by decide +kernel
theorem d42_71 : decode c_30 71 = .ok (.iushr, 1) := by decide +kernel
theorem d42_72 : decode c_30 72 = .ok (.istore_n 0, 1) := by decide +kernel
theorem d42_54 : decode c_30 54 = .ok (.iinc 1 (-4), 3) := by decide +kernel
theorem d42_57 : decode c_30 57 = .ok (.iload_n 0, 1) := by decide +kernel
theorem d42_58 : decode c_30 58 = .ok (.iconst 4, 1) := by decide +kernel
theorem d42_59 : decode c_30 59 = .ok (.iushr, 1) := by decide +kernel
theorem d42_60 : decode c_30 60 = .ok (.istore_n 0, 1) := by decide +kernel
theorem d42_40 : decode c_30 40 = .ok (.iinc 1 (-8), 3) := by decide +kernel
theorem d42_43 : decode c_30 43 = .ok (.iload_n 0, 1) := by decide +kernel
theorem d42_44 : decode c_30 44 = .ok (.bipush 8, 2) := by decide +kernel
theorem d42_46 : decode c_30 46 = .ok (.iushr, 1) := by decide +kernel
theorem d42_47 : decode c_30 47 = .ok (.istore_n 0, 1) := by decide +kernel
theorem d42_25 : decode c_30 25 = .ok (.iinc 1 (-16), 3) := by decide +kernel
theorem d42_28 : decode c_30 28 = .ok (.iload_n 0, 1) := by decide +kernel
theorem d42_29 : decode c_30 29 = .ok (.bipush 16, 2) := by decide +kernel
theorem d42_31 : decode c_30 31 = .ok (.iushr, 1) := by decide +kernel
theorem d42_32 : decode c_30 32 = .ok (.istore_n 0, 1) := by decide +kernel
theorem d42_4 : decode c_30 4 = .ok (.iload_n 0, 1) := by decide +kernel
theorem d42_5 : decode c_30 5 = .ok (.ifCond .ne 8, 3) := by decide +kernel
theorem d42_8 : decode c_30 8 = .ok (.bipush 32, 2) := by decide +kernel
theorem d42_10 : decode c_30 10 = .ok (.goto 4, 3) := by decide +kernel
theorem d42_14 : decode c_30 14 = .ok (.ireturn, 1) := by decide +kernel
theorem d42_13 : decode c_30 13 = .ok (.iconst 0, 1) := by decide +kernel
theorem pn_java_lang_Integer : plainName "java/lang/Integer" = true := by first | (simp [plainName, overriddenIn]; done) | decide +kernel
theorem ef_rmNlz (m : MethodId) (x0 : Int32) : entryFrame m #[(.int x0)] 2 = mkF m 0 #[.val (.int x0), .unset] [] := by first | (simp [entryFrame, mkF, argsToLocals, Value.category]; done) | rfl
def QrmNlz (Z : State) (x : Int32)  (h0 : Heap) (n0 : Nat) (v : Option Value) (h : Heap) (L : List Loc) : Prop := v = some (.int (own_nlz x)) ∧ Fr n0 L ∧ h = h0
theorem rmNlz (l : Launch) (Z : State) (a0 : Array Value) (hw : ∀ d ∈ tables_1, d.before a0 Z = true) (ws : List Jvm.Cond) (x : Int32)  (h0 : Heap) (n0 : Nat) (Z0 : n0 ≤ h0.size)  :
    MetFree l m_21 (head1 (Jvm.Cond.code m_21 jdk_33_method_47_code 2 (some .int) :: ws) ({ frames := 0, cells := 0, slots := 0, locals := 0 } : Room)) (fun a U => a = #[(.int x)] ∧ Z.Warmed39 U.vm ∧ U.heap = h0) (fun _ _ _ _ _ => True) (fun _ U o U' => ∃ v L, o = .returned v ∧ QrmNlz Z x  h0 n0 v U'.heap L ∧ FrameEnd U o U' L ({ frames := 0, cells := 0, slots := 0, locals := 0 } : Room).cells ({ frames := 0, cells := 0, slots := 0, locals := 0 } : Room).slots) := by
  refine MetFree.of_bodySF (plainFor_of_name pn_java_lang_Integer) hisR ?_
  intro p e s m args below meth c s₁ Bd hml0 hP hK
  obtain ⟨rfl, hZ, hh⟩ := hP
  have hx := Bd.exec
  have hby := Bd.bytes
  have hml : c.maxLocals = 2 := hml0
  have hown : s.vm.findClass "java/lang/Integer" = some m.cls := findClass_of_methodNamed Bd.named
  have hnm := (name_of_methodNamed Bd.named Bd.method).1
  have X0 : Stand p l e ({ frames := 0, cells := 0, slots := 0, locals := 0 } : Room) s m #[(.int x)] below meth c s₁ [] 0 0 := Stand.of_body Bd
  have e0 : s₁.heap = h0 := by rw [← hh, Bd.state]; rfl
  have N0 := Fr.nil n0
  have pre0 : ∀ t, Steps p.tables e below (s₁.setTop (mkF m 0 #[.val (.int x), .unset] [])) t → Steps p.tables e below (s₁.setTop (entryFrame m #[(.int x)] 2)) t := fun t k => castTop (ef_rmNlz m x) k
  obtain ⟨fs, hr, hrun, hended, hW, hsame⟩ := X0.leave (v := some (.int (if (0 : Int32) < x then (if x < (65536 : Int32) then (if x < (256 : Int32) then (if x < (16 : Int32) then (if x < (4 : Int32) then ((31 : Int32) - (own_u x (1 : Int32))) else (((31 : Int32) + (-2 : Int32)) - (own_u (own_u x (2 : Int32)) (1 : Int32)))) else (if (own_u x (4 : Int32)) < (4 : Int32) then (((31 : Int32) + (-4 : Int32)) - (own_u (own_u x (4 : Int32)) (1 : Int32))) else ((((31 : Int32) + (-4 : Int32)) + (-2 : Int32)) - (own_u (own_u (own_u x (4 : Int32)) (2 : Int32)) (1 : Int32))))) else (if (own_u x (8 : Int32)) < (16 : Int32) then (if (own_u x (8 : Int32)) < (4 : Int32) then (((31 : Int32) + (-8 : Int32)) - (own_u (own_u x (8 : Int32)) (1 : Int32))) else ((((31 : Int32) + (-8 : Int32)) + (-2 : Int32)) - (own_u (own_u (own_u x (8 : Int32)) (2 : Int32)) (1 : Int32)))) else (if (own_u (own_u x (8 : Int32)) (4 : Int32)) < (4 : Int32) then ((((31 : Int32) + (-8 : Int32)) + (-4 : Int32)) - (own_u (own_u (own_u x (8 : Int32)) (4 : Int32)) (1 : Int32))) else (((((31 : Int32) + (-8 : Int32)) + (-4 : Int32)) + (-2 : Int32)) - (own_u (own_u (own_u (own_u x (8 : Int32)) (4 : Int32)) (2 : Int32)) (1 : Int32)))))) else (if (own_u x (16 : Int32)) < (256 : Int32) then (if (own_u x (16 : Int32)) < (16 : Int32) then (if (own_u x (16 : Int32)) < (4 : Int32) then (((31 : Int32) + (-16 : Int32)) - (own_u (own_u x (16 : Int32)) (1 : Int32))) else ((((31 : Int32) + (-16 : Int32)) + (-2 : Int32)) - (own_u (own_u (own_u x (16 : Int32)) (2 : Int32)) (1 : Int32)))) else (if (own_u (own_u x (16 : Int32)) (4 : Int32)) < (4 : Int32) then ((((31 : Int32) + (-16 : Int32)) + (-4 : Int32)) - (own_u (own_u (own_u x (16 : Int32)) (4 : Int32)) (1 : Int32))) else (((((31 : Int32) + (-16 : Int32)) + (-4 : Int32)) + (-2 : Int32)) - (own_u (own_u (own_u (own_u x (16 : Int32)) (4 : Int32)) (2 : Int32)) (1 : Int32))))) else (if (own_u (own_u x (16 : Int32)) (8 : Int32)) < (16 : Int32) then (if (own_u (own_u x (16 : Int32)) (8 : Int32)) < (4 : Int32) then ((((31 : Int32) + (-16 : Int32)) + (-8 : Int32)) - (own_u (own_u (own_u x (16 : Int32)) (8 : Int32)) (1 : Int32))) else (((((31 : Int32) + (-16 : Int32)) + (-8 : Int32)) + (-2 : Int32)) - (own_u (own_u (own_u (own_u x (16 : Int32)) (8 : Int32)) (2 : Int32)) (1 : Int32)))) else (if (own_u (own_u (own_u x (16 : Int32)) (8 : Int32)) (4 : Int32)) < (4 : Int32) then (((((31 : Int32) + (-16 : Int32)) + (-8 : Int32)) + (-4 : Int32)) - (own_u (own_u (own_u (own_u x (16 : Int32)) (8 : Int32)) (4 : Int32)) (1 : Int32))) else ((((((31 : Int32) + (-16 : Int32)) + (-8 : Int32)) + (-4 : Int32)) + (-2 : Int32)) - (own_u (own_u (own_u (own_u (own_u x (16 : Int32)) (8 : Int32)) (4 : Int32)) (2 : Int32)) (1 : Int32))))))) else (if x = (0 : Int32) then (32 : Int32) else (0 : Int32))))) (fun h => by rw [Bd.returns] at h; cases h)
  refine ⟨_, _, pre0 _ ?_, hrun, hended, _, _, rfl, ?_, ⟨_, rfl⟩, hW, hsame.mono (by decide) (by decide)⟩
  · show Steps p.tables e below (s₁.setTop (mkF m 0 #[.val (.int x), .unset] [])) _
    refine XS.iloadN X0.here hx rfl (hb hby d42_0) rfl ?_
    by_cases ht0 : (0 : Int32) < x
    · rw [if_pos ht0] at hr
      show Steps p.tables e below (s₁.setTop (mkF m 1 #[.val (.int x), .unset] [(.int x)])) _
      refine XS.ifYes X0.here hx rfl (pc0 := 1) (pc' := 15) rfl (hb hby d42_1) rfl ((if0 _ _).trans (tlt (ht0 : (0 : Int32) < x)).2.2.1) (by decide) (by decide) ?_
      refine XS.bipush X0.here hx rfl (hb hby d42_15) ?_
      refine XS.istoreN X0.here hx rfl (hb hby d42_17) rfl (l' := #[.val (.int x), .val (.int (31 : Int32))]) rfl ?_
      refine XS.iloadN X0.here hx rfl (hb hby d42_18) rfl ?_
      refine X0.ldcwInt hx hown (mvT hZ (own_w hw 220 rfl)) (g := (mkF m 19 #[.val (.int x), .val (.int (31 : Int32))] [(.int x)])) rfl (hb hby d42_19) _ ?_
      by_cases ht1 : x < (65536 : Int32)
      · rw [if_pos ht1] at hr
        show Steps p.tables e below (s₁.setTop (mkF m 22 #[.val (.int x), .val (.int (31 : Int32))] [(.int (65536 : Int32)), (.int x)])) _
        refine XS.icmpYes X0.here hx rfl (pc0 := 22) (pc' := 33) rfl (hb hby d42_22) rfl (tlt (ht1 : x < (65536 : Int32))).1 (by decide) (by decide) ?_
        refine XS.iloadN X0.here hx rfl (hb hby d42_33) rfl ?_
        refine XS.sipush X0.here hx rfl (hb hby d42_34) ?_
        by_cases ht2 : x < (256 : Int32)
        · rw [if_pos ht2] at hr
          show Steps p.tables e below (s₁.setTop (mkF m 37 #[.val (.int x), .val (.int (31 : Int32))] [(.int (256 : Int32)), (.int x)])) _
          refine XS.icmpYes X0.here hx rfl (pc0 := 37) (pc' := 48) rfl (hb hby d42_37) rfl (tlt (ht2 : x < (256 : Int32))).1 (by decide) (by decide) ?_
          refine XS.iloadN X0.here hx rfl (hb hby d42_48) rfl ?_
          refine XS.bipush X0.here hx rfl (hb hby d42_49) ?_
          by_cases ht3 : x < (16 : Int32)
          · rw [if_pos ht3] at hr
            show Steps p.tables e below (s₁.setTop (mkF m 51 #[.val (.int x), .val (.int (31 : Int32))] [(.int (16 : Int32)), (.int x)])) _
            refine XS.icmpYes X0.here hx rfl (pc0 := 51) (pc' := 61) rfl (hb hby d42_51) rfl (tlt (ht3 : x < (16 : Int32))).1 (by decide) (by decide) ?_
            refine XS.iloadN X0.here hx rfl (hb hby d42_61) rfl ?_
            refine XS.iconst X0.here hx rfl (hb hby d42_62) ?_
            by_cases ht4 : x < (4 : Int32)
            · rw [if_pos ht4] at hr
              show Steps p.tables e below (s₁.setTop (mkF m 63 #[.val (.int x), .val (.int (31 : Int32))] [(.int (4 : Int32)), (.int x)])) _
              refine XS.icmpYes X0.here hx rfl (pc0 := 63) (pc' := 73) rfl (hb hby d42_63) rfl (tlt (ht4 : x < (4 : Int32))).1 (by decide) (by decide) ?_
              show Steps p.tables e below (s₁.setTop (mkF m 73 #[.val (.int x), .val (.int (31 : Int32))] [])) _
              refine XS.iloadN X0.here hx rfl (hb hby d42_73) rfl ?_
              show Steps p.tables e below (s₁.setTop (mkF m 74 #[.val (.int x), .val (.int (31 : Int32))] [(.int (31 : Int32))])) _
              refine XS.iloadN X0.here hx rfl (hb hby d42_74) rfl ?_
              show Steps p.tables e below (s₁.setTop (mkF m 75 #[.val (.int x), .val (.int (31 : Int32))] [(.int x), (.int (31 : Int32))])) _
              refine XS.iconst X0.here hx rfl (hb hby d42_75) ?_
              show Steps p.tables e below (s₁.setTop (mkF m 76 #[.val (.int x), .val (.int (31 : Int32))] [(.int (1 : Int32)), (.int x), (.int (31 : Int32))])) _
              refine XS.iushr X0.here hx rfl (hb hby d42_76) rfl ?_
              show Steps p.tables e below (s₁.setTop (mkF m 77 #[.val (.int x), .val (.int (31 : Int32))] [(.int (own_u x (1 : Int32))), (.int (31 : Int32))])) _
              refine XS.isub X0.here hx rfl (hb hby d42_77) rfl ?_
              show Steps p.tables e below (s₁.setTop (mkF m 78 #[.val (.int x), .val (.int (31 : Int32))] [(.int ((31 : Int32) - (own_u x (1 : Int32))))])) _
              exact retI X0 hx Bd.returns (hb hby d42_78) hr
            · rw [if_neg ht4] at hr
              show Steps p.tables e below (s₁.setTop (mkF m 63 #[.val (.int x), .val (.int (31 : Int32))] [(.int (4 : Int32)), (.int x)])) _
              refine XS.icmpNo X0.here hx rfl (hb hby d42_63) rfl (flt (ht4 : ¬ (x < (4 : Int32)))).1 ?_
              show Steps p.tables e below (s₁.setTop (mkF m 66 #[.val (.int x), .val (.int (31 : Int32))] [])) _
              refine XS.iinc X0.here hx rfl (hb hby d42_66) rfl (l' := #[.val (.int x), .val (.int ((31 : Int32) + (-2 : Int32)))]) rfl ?_
              show Steps p.tables e below (s₁.setTop (mkF m 69 #[.val (.int x), .val (.int ((31 : Int32) + (-2 : Int32)))] [])) _
              refine XS.iloadN X0.here hx rfl (hb hby d42_69) rfl ?_
              show Steps p.tables e below (s₁.setTop (mkF m 70 #[.val (.int x), .val (.int ((31 : Int32) + (-2 : Int32)))] [(.int x)])) _
              refine XS.iconst X0.here hx rfl (hb hby d42_70) ?_
              show Steps p.tables e below (s₁.setTop (mkF m 71 #[.val (.int x), .val (.int ((31 : Int32) + (-2 : Int32)))] [(.int (2 : Int32)), (.int x)])) _
              refine XS.iushr X0.here hx rfl (hb hby d42_71) rfl ?_
              show Steps p.tables e below (s₁.setTop (mkF m 72 #[.val (.int x), .val (.int ((31 : Int32) + (-2 : Int32)))] [(.int (own_u x (2 : Int32)))])) _
              refine XS.istoreN X0.here hx rfl (hb hby d42_72) rfl (l' := #[.val (.int (own_u x (2 : Int32))), .val (.int ((31 : Int32) + (-2 : Int32)))]) rfl ?_
              show Steps p.tables e below (s₁.setTop (mkF m 73 #[.val (.int (own_u x (2 : Int32))), .val (.int ((31 : Int32) + (-2 : Int32)))] [])) _
              refine XS.iloadN X0.here hx rfl (hb hby d42_73) rfl ?_
              show Steps p.tables e below (s₁.setTop (mkF m 74 #[.val (.int (own_u x (2 : Int32))), .val (.int ((31 : Int32) + (-2 : Int32)))] [(.int ((31 : Int32) + (-2 : Int32)))])) _
              refine XS.iloadN X0.here hx rfl (hb hby d42_74) rfl ?_
              show Steps p.tables e below (s₁.setTop (mkF m 75 #[.val (.int (own_u x (2 : Int32))), .val (.int ((31 : Int32) + (-2 : Int32)))] [(.int (own_u x (2 : Int32))), (.int ((31 : Int32) + (-2 : Int32)))])) _
              refine XS.iconst X0.here hx rfl (hb hby d42_75) ?_
              show Steps p.tables e below (s₁.setTop (mkF m 76 #[.val (.int (own_u x (2 : Int32))), .val (.int ((31 : Int32) + (-2 : Int32)))] [(.int (1 : Int32)), (.int (own_u x (2 : Int32))), (.int ((31 : Int32) + (-2 : Int32)))])) _
              refine XS.iushr X0.here hx rfl (hb hby d42_76) rfl ?_
              show Steps p.tables e below (s₁.setTop (mkF m 77 #[.val (.int (own_u x (2 : Int32))), .val (.int ((31 : Int32) + (-2 : Int32)))] [(.int (own_u (own_u x (2 : Int32)) (1 : Int32))), (.int ((31 : Int32) + (-2 : Int32)))])) _
              refine XS.isub X0.here hx rfl (hb hby d42_77) rfl ?_
              show Steps p.tables e below (s₁.setTop (mkF m 78 #[.val (.int (own_u x (2 : Int32))), .val (.int ((31 : Int32) + (-2 : Int32)))] [(.int (((31 : Int32) + (-2 : Int32)) - (own_u (own_u x (2 : Int32)) (1 : Int32))))])) _
              exact retI X0 hx Bd.returns (hb hby d42_78) hr
          · rw [if_neg ht3] at hr
            show Steps p.tables e below (s₁.setTop (mkF m 51 #[.val (.int x), .val (.int (31 : Int32))] [(.int (16 : Int32)), (.int x)])) _
            refine XS.icmpNo X0.here hx rfl (hb hby d42_51) rfl (flt (ht3 : ¬ (x < (16 : Int32)))).1 ?_
            refine XS.iinc X0.here hx rfl (hb hby d42_54) rfl (l' := #[.val (.int x), .val (.int ((31 : Int32) + (-4 : Int32)))]) rfl ?_
            refine XS.iloadN X0.here hx rfl (hb hby d42_57) rfl ?_
            refine XS.iconst X0.here hx rfl (hb hby d42_58) ?_
            refine XS.iushr X0.here hx rfl (hb hby d42_59) rfl ?_
            refine XS.istoreN X0.here hx rfl (hb hby d42_60) rfl (l' := #[.val (.int (own_u x (4 : Int32))), .val (.int ((31 : Int32) + (-4 : Int32)))]) rfl ?_
            refine XS.iloadN X0.here hx rfl (hb hby d42_61) rfl ?_
            refine XS.iconst X0.here hx rfl (hb hby d42_62) ?_
            by_cases ht4 : (own_u x (4 : Int32)) < (4 : Int32)
            · rw [if_pos ht4] at hr
              show Steps p.tables e below (s₁.setTop (mkF m 63 #[.val (.int (own_u x (4 : Int32))), .val (.int ((31 : Int32) + (-4 : Int32)))] [(.int (4 : Int32)), (.int (own_u x (4 : Int32)))])) _
              refine XS.icmpYes X0.here hx rfl (pc0 := 63) (pc' := 73) rfl (hb hby d42_63) rfl (tlt (ht4 : (own_u x (4 : Int32)) < (4 : Int32))).1 (by decide) (by decide) ?_
              show Steps p.tables e below (s₁.setTop (mkF m 73 #[.val (.int (own_u x (4 : Int32))), .val (.int ((31 : Int32) + (-4 : Int32)))] [])) _
              refine XS.iloadN X0.here hx rfl (hb hby d42_73) rfl ?_
              show Steps p.tables e below (s₁.setTop (mkF m 74 #[.val (.int (own_u x (4 : Int32))), .val (.int ((31 : Int32) + (-4 : Int32)))] [(.int ((31 : Int32) + (-4 : Int32)))])) _
              refine XS.iloadN X0.here hx rfl (hb hby d42_74) rfl ?_
              show Steps p.tables e below (s₁.setTop (mkF m 75 #[.val (.int (own_u x (4 : Int32))), .val (.int ((31 : Int32) + (-4 : Int32)))] [(.int (own_u x (4 : Int32))), (.int ((31 : Int32) + (-4 : Int32)))])) _
              refine XS.iconst X0.here hx rfl (hb hby d42_75) ?_
              show Steps p.tables e below (s₁.setTop (mkF m 76 #[.val (.int (own_u x (4 : Int32))), .val (.int ((31 : Int32) + (-4 : Int32)))] [(.int (1 : Int32)), (.int (own_u x (4 : Int32))), (.int ((31 : Int32) + (-4 : Int32)))])) _
              refine XS.iushr X0.here hx rfl (hb hby d42_76) rfl ?_
              show Steps p.tables e below (s₁.setTop (mkF m 77 #[.val (.int (own_u x (4 : Int32))), .val (.int ((31 : Int32) + (-4 : Int32)))] [(.int (own_u (own_u x (4 : Int32)) (1 : Int32))), (.int ((31 : Int32) + (-4 : Int32)))])) _
              refine XS.isub X0.here hx rfl (hb hby d42_77) rfl ?_
              show Steps p.tables e below (s₁.setTop (mkF m 78 #[.val (.int (own_u x (4 : Int32))), .val (.int ((31 : Int32) + (-4 : Int32)))] [(.int (((31 : Int32) + (-4 : Int32)) - (own_u (own_u x (4 : Int32)) (1 : Int32))))])) _
              exact retI X0 hx Bd.returns (hb hby d42_78) hr
            · rw [if_neg ht4] at hr
              show Steps p.tables e below (s₁.setTop (mkF m 63 #[.val (.int (own_u x (4 : Int32))), .val (.int ((31 : Int32) + (-4 : Int32)))] [(.int (4 : Int32)), (.int (own_u x (4 : Int32)))])) _
              refine XS.icmpNo X0.here hx rfl (hb hby d42_63) rfl (flt (ht4 : ¬ ((own_u x (4 : Int32)) < (4 : Int32)))).1 ?_
              show Steps p.tables e below (s₁.setTop (mkF m 66 #[.val (.int (own_u x (4 : Int32))), .val (.int ((31 : Int32) + (-4 : Int32)))] [])) _
              refine XS.iinc X0.here hx rfl (hb hby d42_66) rfl (l' := #[.val (.int (own_u x (4 : Int32))), .val (.int (((31 : Int32) + (-4 : Int32)) + (-2 : Int32)))]) rfl ?_
              show Steps p.tables e below (s₁.setTop (mkF m 69 #[.val (.int (own_u x (4 : Int32))), .val (.int (((31 : Int32) + (-4 : Int32)) + (-2 : Int32)))] [])) _
              refine XS.iloadN X0.here hx rfl (hb hby d42_69) rfl ?_
              show Steps p.tables e below (s₁.setTop (mkF m 70 #[.val (.int (own_u x (4 : Int32))), .val (.int (((31 : Int32) + (-4 : Int32)) + (-2 : Int32)))] [(.int (own_u x (4 : Int32)))])) _
              refine XS.iconst X0.here hx rfl (hb hby d42_70) ?_
              show Steps p.tables e below (s₁.setTop (mkF m 71 #[.val (.int (own_u x (4 : Int32))), .val (.int (((31 : Int32) + (-4 : Int32)) + (-2 : Int32)))] [(.int (2 : Int32)), (.int (own_u x (4 : Int32)))])) _
              refine XS.iushr X0.here hx rfl (hb hby d42_71) rfl ?_
              show Steps p.tables e below (s₁.setTop (mkF m 72 #[.val (.int (own_u x (4 : Int32))), .val (.int (((31 : Int32) + (-4 : Int32)) + (-2 : Int32)))] [(.int (own_u (own_u x (4 : Int32)) (2 : Int32)))])) _
              refine XS.istoreN X0.here hx rfl (hb hby d42_72) rfl (l' := #[.val (.int (own_u (own_u x (4 : Int32)) (2 : Int32))), .val (.int (((31 : Int32) + (-4 : Int32)) + (-2 : Int32)))]) rfl ?_
              show Steps p.tables e below (s₁.setTop (mkF m 73 #[.val (.int (own_u (own_u x (4 : Int32)) (2 : Int32))), .val (.int (((31 : Int32) + (-4 : Int32)) + (-2 : Int32)))] [])) _
              refine XS.iloadN X0.here hx rfl (hb hby d42_73) rfl ?_
              show Steps p.tables e below (s₁.setTop (mkF m 74 #[.val (.int (own_u (own_u x (4 : Int32)) (2 : Int32))), .val (.int (((31 : Int32) + (-4 : Int32)) + (-2 : Int32)))] [(.int (((31 : Int32) + (-4 : Int32)) + (-2 : Int32)))])) _
              refine XS.iloadN X0.here hx rfl (hb hby d42_74) rfl ?_
              show Steps p.tables e below (s₁.setTop (mkF m 75 #[.val (.int (own_u (own_u x (4 : Int32)) (2 : Int32))), .val (.int (((31 : Int32) + (-4 : Int32)) + (-2 : Int32)))] [(.int (own_u (own_u x (4 : Int32)) (2 : Int32))), (.int (((31 : Int32) + (-4 : Int32)) + (-2 : Int32)))])) _
              refine XS.iconst X0.here hx rfl (hb hby d42_75) ?_
              show Steps p.tables e below (s₁.setTop (mkF m 76 #[.val (.int (own_u (own_u x (4 : Int32)) (2 : Int32))), .val (.int (((31 : Int32) + (-4 : Int32)) + (-2 : Int32)))] [(.int (1 : Int32)), (.int (own_u (own_u x (4 : Int32)) (2 : Int32))), (.int (((31 : Int32) + (-4 : Int32)) + (-2 : Int32)))])) _
              refine XS.iushr X0.here hx rfl (hb hby d42_76) rfl ?_
              show Steps p.tables e below (s₁.setTop (mkF m 77 #[.val (.int (own_u (own_u x (4 : Int32)) (2 : Int32))), .val (.int (((31 : Int32) + (-4 : Int32)) + (-2 : Int32)))] [(.int (own_u (own_u (own_u x (4 : Int32)) (2 : Int32)) (1 : Int32))), (.int (((31 : Int32) + (-4 : Int32)) + (-2 : Int32)))])) _
              refine XS.isub X0.here hx rfl (hb hby d42_77) rfl ?_
              show Steps p.tables e below (s₁.setTop (mkF m 78 #[.val (.int (own_u (own_u x (4 : Int32)) (2 : Int32))), .val (.int (((31 : Int32) + (-4 : Int32)) + (-2 : Int32)))] [(.int ((((31 : Int32) + (-4 : Int32)) + (-2 : Int32)) - (own_u (own_u (own_u x (4 : Int32)) (2 : Int32)) (1 : Int32))))])) _
              exact retI X0 hx Bd.returns (hb hby d42_78) hr
        · rw [if_neg ht2] at hr
          show Steps p.tables e below (s₁.setTop (mkF m 37 #[.val (.int x), .val (.int (31 : Int32))] [(.int (256 : Int32)), (.int x)])) _
          refine XS.icmpNo X0.here hx rfl (hb hby d42_37) rfl (flt (ht2 : ¬ (x < (256 : Int32)))).1 ?_
          refine XS.iinc X0.here hx rfl (hb hby d42_40) rfl (l' := #[.val (.int x), .val (.int ((31 : Int32) + (-8 : Int32)))]) rfl ?_
          refine XS.iloadN X0.here hx rfl (hb hby d42_43) rfl ?_
          refine XS.bipush X0.here hx rfl (hb hby d42_44) ?_
          refine XS.iushr X0.here hx rfl (hb hby d42_46) rfl ?_
          refine XS.istoreN X0.here hx rfl (hb hby d42_47) rfl (l' := #[.val (.int (own_u x (8 : Int32))), .val (.int ((31 : Int32) + (-8 : Int32)))]) rfl ?_
          refine XS.iloadN X0.here hx rfl (hb hby d42_48) rfl ?_
          refine XS.bipush X0.here hx rfl (hb hby d42_49) ?_
          by_cases ht3 : (own_u x (8 : Int32)) < (16 : Int32)
          · rw [if_pos ht3] at hr
            show Steps p.tables e below (s₁.setTop (mkF m 51 #[.val (.int (own_u x (8 : Int32))), .val (.int ((31 : Int32) + (-8 : Int32)))] [(.int (16 : Int32)), (.int (own_u x (8 : Int32)))])) _
            refine XS.icmpYes X0.here hx rfl (pc0 := 51) (pc' := 61) rfl (hb hby d42_51) rfl (tlt (ht3 : (own_u x (8 : Int32)) < (16 : Int32))).1 (by decide) (by decide) ?_
            refine XS.iloadN X0.here hx rfl (hb hby d42_61) rfl ?_
            refine XS.iconst X0.here hx rfl (hb hby d42_62) ?_
            by_cases ht4 : (own_u x (8 : Int32)) < (4 : Int32)
            · rw [if_pos ht4] at hr
              show Steps p.tables e below (s₁.setTop (mkF m 63 #[.val (.int (own_u x (8 : Int32))), .val (.int ((31 : Int32) + (-8 : Int32)))] [(.int (4 : Int32)), (.int (own_u x (8 : Int32)))])) _
              refine XS.icmpYes X0.here hx rfl (pc0 := 63) (pc' := 73) rfl (hb hby d42_63) rfl (tlt (ht4 : (own_u x (8 : Int32)) < (4 : Int32))).1 (by decide) (by decide) ?_
              show Steps p.tables e below (s₁.setTop (mkF m 73 #[.val (.int (own_u x (8 : Int32))), .val (.int ((31 : Int32) + (-8 : Int32)))] [])) _
              refine XS.iloadN X0.here hx rfl (hb hby d42_73) rfl ?_
              show Steps p.tables e below (s₁.setTop (mkF m 74 #[.val (.int (own_u x (8 : Int32))), .val (.int ((31 : Int32) + (-8 : Int32)))] [(.int ((31 : Int32) + (-8 : Int32)))])) _
              refine XS.iloadN X0.here hx rfl (hb hby d42_74) rfl ?_
              show Steps p.tables e below (s₁.setTop (mkF m 75 #[.val (.int (own_u x (8 : Int32))), .val (.int ((31 : Int32) + (-8 : Int32)))] [(.int (own_u x (8 : Int32))), (.int ((31 : Int32) + (-8 : Int32)))])) _
              refine XS.iconst X0.here hx rfl (hb hby d42_75) ?_
              show Steps p.tables e below (s₁.setTop (mkF m 76 #[.val (.int (own_u x (8 : Int32))), .val (.int ((31 : Int32) + (-8 : Int32)))] [(.int (1 : Int32)), (.int (own_u x (8 : Int32))), (.int ((31 : Int32) + (-8 : Int32)))])) _
              refine XS.iushr X0.here hx rfl (hb hby d42_76) rfl ?_
              show Steps p.tables e below (s₁.setTop (mkF m 77 #[.val (.int (own_u x (8 : Int32))), .val (.int ((31 : Int32) + (-8 : Int32)))] [(.int (own_u (own_u x (8 : Int32)) (1 : Int32))), (.int ((31 : Int32) + (-8 : Int32)))])) _
              refine XS.isub X0.here hx rfl (hb hby d42_77) rfl ?_
              show Steps p.tables e below (s₁.setTop (mkF m 78 #[.val (.int (own_u x (8 : Int32))), .val (.int ((31 : Int32) + (-8 : Int32)))] [(.int (((31 : Int32) + (-8 : Int32)) - (own_u (own_u x (8 : Int32)) (1 : Int32))))])) _
              exact retI X0 hx Bd.returns (hb hby d42_78) hr
            · rw [if_neg ht4] at hr
              show Steps p.tables e below (s₁.setTop (mkF m 63 #[.val (.int (own_u x (8 : Int32))), .val (.int ((31 : Int32) + (-8 : Int32)))] [(.int (4 : Int32)), (.int (own_u x (8 : Int32)))])) _
              refine XS.icmpNo X0.here hx rfl (hb hby d42_63) rfl (flt (ht4 : ¬ ((own_u x (8 : Int32)) < (4 : Int32)))).1 ?_
              show Steps p.tables e below (s₁.setTop (mkF m 66 #[.val (.int (own_u x (8 : Int32))), .val (.int ((31 : Int32) + (-8 : Int32)))] [])) _
              refine XS.iinc X0.here hx rfl (hb hby d42_66) rfl (l' := #[.val (.int (own_u x (8 : Int32))), .val (.int (((31 : Int32) + (-8 : Int32)) + (-2 : Int32)))]) rfl ?_
              show Steps p.tables e below (s₁.setTop (mkF m 69 #[.val (.int (own_u x (8 : Int32))), .val (.int (((31 : Int32) + (-8 : Int32)) + (-2 : Int32)))] [])) _
              refine XS.iloadN X0.here hx rfl (hb hby d42_69) rfl ?_
              show Steps p.tables e below (s₁.setTop (mkF m 70 #[.val (.int (own_u x (8 : Int32))), .val (.int (((31 : Int32) + (-8 : Int32)) + (-2 : Int32)))] [(.int (own_u x (8 : Int32)))])) _
              refine XS.iconst X0.here hx rfl (hb hby d42_70) ?_
              show Steps p.tables e below (s₁.setTop (mkF m 71 #[.val (.int (own_u x (8 : Int32))), .val (.int (((31 : Int32) + (-8 : Int32)) + (-2 : Int32)))] [(.int (2 : Int32)), (.int (own_u x (8 : Int32)))])) _
              refine XS.iushr X0.here hx rfl (hb hby d42_71) rfl ?_
              show Steps p.tables e below (s₁.setTop (mkF m 72 #[.val (.int (own_u x (8 : Int32))), .val (.int (((31 : Int32) + (-8 : Int32)) + (-2 : Int32)))] [(.int (own_u (own_u x (8 : Int32)) (2 : Int32)))])) _
              refine XS.istoreN X0.here hx rfl (hb hby d42_72) rfl (l' := #[.val (.int (own_u (own_u x (8 : Int32)) (2 : Int32))), .val (.int (((31 : Int32) + (-8 : Int32)) + (-2 : Int32)))]) rfl ?_
              show Steps p.tables e below (s₁.setTop (mkF m 73 #[.val (.int (own_u (own_u x (8 : Int32)) (2 : Int32))), .val (.int (((31 : Int32) + (-8 : Int32)) + (-2 : Int32)))] [])) _
              refine XS.iloadN X0.here hx rfl (hb hby d42_73) rfl ?_
              show Steps p.tables e below (s₁.setTop (mkF m 74 #[.val (.int (own_u (own_u x (8 : Int32)) (2 : Int32))), .val (.int (((31 : Int32) + (-8 : Int32)) + (-2 : Int32)))] [(.int (((31 : Int32) + (-8 : Int32)) + (-2 : Int32)))])) _
              refine XS.iloadN X0.here hx rfl (hb hby d42_74) rfl ?_
              show Steps p.tables e below (s₁.setTop (mkF m 75 #[.val (.int (own_u (own_u x (8 : Int32)) (2 : Int32))), .val (.int (((31 : Int32) + (-8 : Int32)) + (-2 : Int32)))] [(.int (own_u (own_u x (8 : Int32)) (2 : Int32))), (.int (((31 : Int32) + (-8 : Int32)) + (-2 : Int32)))])) _
              refine XS.iconst X0.here hx rfl (hb hby d42_75) ?_
              show Steps p.tables e below (s₁.setTop (mkF m 76 #[.val (.int (own_u (own_u x (8 : Int32)) (2 : Int32))), .val (.int (((31 : Int32) + (-8 : Int32)) + (-2 : Int32)))] [(.int (1 : Int32)), (.int (own_u (own_u x (8 : Int32)) (2 : Int32))), (.int (((31 : Int32) + (-8 : Int32)) + (-2 : Int32)))])) _
              refine XS.iushr X0.here hx rfl (hb hby d42_76) rfl ?_
              show Steps p.tables e below (s₁.setTop (mkF m 77 #[.val (.int (own_u (own_u x (8 : Int32)) (2 : Int32))), .val (.int (((31 : Int32) + (-8 : Int32)) + (-2 : Int32)))] [(.int (own_u (own_u (own_u x (8 : Int32)) (2 : Int32)) (1 : Int32))), (.int (((31 : Int32) + (-8 : Int32)) + (-2 : Int32)))])) _
              refine XS.isub X0.here hx rfl (hb hby d42_77) rfl ?_
              show Steps p.tables e below (s₁.setTop (mkF m 78 #[.val (.int (own_u (own_u x (8 : Int32)) (2 : Int32))), .val (.int (((31 : Int32) + (-8 : Int32)) + (-2 : Int32)))] [(.int ((((31 : Int32) + (-8 : Int32)) + (-2 : Int32)) - (own_u (own_u (own_u x (8 : Int32)) (2 : Int32)) (1 : Int32))))])) _
              exact retI X0 hx Bd.returns (hb hby d42_78) hr
          · rw [if_neg ht3] at hr
            show Steps p.tables e below (s₁.setTop (mkF m 51 #[.val (.int (own_u x (8 : Int32))), .val (.int ((31 : Int32) + (-8 : Int32)))] [(.int (16 : Int32)), (.int (own_u x (8 : Int32)))])) _
            refine XS.icmpNo X0.here hx rfl (hb hby d42_51) rfl (flt (ht3 : ¬ ((own_u x (8 : Int32)) < (16 : Int32)))).1 ?_
            refine XS.iinc X0.here hx rfl (hb hby d42_54) rfl (l' := #[.val (.int (own_u x (8 : Int32))), .val (.int (((31 : Int32) + (-8 : Int32)) + (-4 : Int32)))]) rfl ?_
            refine XS.iloadN X0.here hx rfl (hb hby d42_57) rfl ?_
            refine XS.iconst X0.here hx rfl (hb hby d42_58) ?_
            refine XS.iushr X0.here hx rfl (hb hby d42_59) rfl ?_
            refine XS.istoreN X0.here hx rfl (hb hby d42_60) rfl (l' := #[.val (.int (own_u (own_u x (8 : Int32)) (4 : Int32))), .val (.int (((31 : Int32) + (-8 : Int32)) + (-4 : Int32)))]) rfl ?_
            refine XS.iloadN X0.here hx rfl (hb hby d42_61) rfl ?_
            refine XS.iconst X0.here hx rfl (hb hby d42_62) ?_
            by_cases ht4 : (own_u (own_u x (8 : Int32)) (4 : Int32)) < (4 : Int32)
            · rw [if_pos ht4] at hr
              show Steps p.tables e below (s₁.setTop (mkF m 63 #[.val (.int (own_u (own_u x (8 : Int32)) (4 : Int32))), .val (.int (((31 : Int32) + (-8 : Int32)) + (-4 : Int32)))] [(.int (4 : Int32)), (.int (own_u (own_u x (8 : Int32)) (4 : Int32)))])) _
              refine XS.icmpYes X0.here hx rfl (pc0 := 63) (pc' := 73) rfl (hb hby d42_63) rfl (tlt (ht4 : (own_u (own_u x (8 : Int32)) (4 : Int32)) < (4 : Int32))).1 (by decide) (by decide) ?_
              show Steps p.tables e below (s₁.setTop (mkF m 73 #[.val (.int (own_u (own_u x (8 : Int32)) (4 : Int32))), .val (.int (((31 : Int32) + (-8 : Int32)) + (-4 : Int32)))] [])) _
              refine XS.iloadN X0.here hx rfl (hb hby d42_73) rfl ?_
              show Steps p.tables e below (s₁.setTop (mkF m 74 #[.val (.int (own_u (own_u x (8 : Int32)) (4 : Int32))), .val (.int (((31 : Int32) + (-8 : Int32)) + (-4 : Int32)))] [(.int (((31 : Int32) + (-8 : Int32)) + (-4 : Int32)))])) _
              refine XS.iloadN X0.here hx rfl (hb hby d42_74) rfl ?_
              show Steps p.tables e below (s₁.setTop (mkF m 75 #[.val (.int (own_u (own_u x (8 : Int32)) (4 : Int32))), .val (.int (((31 : Int32) + (-8 : Int32)) + (-4 : Int32)))] [(.int (own_u (own_u x (8 : Int32)) (4 : Int32))), (.int (((31 : Int32) + (-8 : Int32)) + (-4 : Int32)))])) _
              refine XS.iconst X0.here hx rfl (hb hby d42_75) ?_
              show Steps p.tables e below (s₁.setTop (mkF m 76 #[.val (.int (own_u (own_u x (8 : Int32)) (4 : Int32))), .val (.int (((31 : Int32) + (-8 : Int32)) + (-4 : Int32)))] [(.int (1 : Int32)), (.int (own_u (own_u x (8 : Int32)) (4 : Int32))), (.int (((31 : Int32) + (-8 : Int32)) + (-4 : Int32)))])) _
              refine XS.iushr X0.here hx rfl (hb hby d42_76) rfl ?_
              show Steps p.tables e below (s₁.setTop (mkF m 77 #[.val (.int (own_u (own_u x (8 : Int32)) (4 : Int32))), .val (.int (((31 : Int32) + (-8 : Int32)) + (-4 : Int32)))] [(.int (own_u (own_u (own_u x (8 : Int32)) (4 : Int32)) (1 : Int32))), (.int (((31 : Int32) + (-8 : Int32)) + (-4 : Int32)))])) _
              refine XS.isub X0.here hx rfl (hb hby d42_77) rfl ?_
              show Steps p.tables e below (s₁.setTop (mkF m 78 #[.val (.int (own_u (own_u x (8 : Int32)) (4 : Int32))), .val (.int (((31 : Int32) + (-8 : Int32)) + (-4 : Int32)))] [(.int ((((31 : Int32) + (-8 : Int32)) + (-4 : Int32)) - (own_u (own_u (own_u x (8 : Int32)) (4 : Int32)) (1 : Int32))))])) _
              exact retI X0 hx Bd.returns (hb hby d42_78) hr
            · rw [if_neg ht4] at hr
              show Steps p.tables e below (s₁.setTop (mkF m 63 #[.val (.int (own_u (own_u x (8 : Int32)) (4 : Int32))), .val (.int (((31 : Int32) + (-8 : Int32)) + (-4 : Int32)))] [(.int (4 : Int32)), (.int (own_u (own_u x (8 : Int32)) (4 : Int32)))])) _
              refine XS.icmpNo X0.here hx rfl (hb hby d42_63) rfl (flt (ht4 : ¬ ((own_u (own_u x (8 : Int32)) (4 : Int32)) < (4 : Int32)))).1 ?_
              show Steps p.tables e below (s₁.setTop (mkF m 66 #[.val (.int (own_u (own_u x (8 : Int32)) (4 : Int32))), .val (.int (((31 : Int32) + (-8 : Int32)) + (-4 : Int32)))] [])) _
              refine XS.iinc X0.here hx rfl (hb hby d42_66) rfl (l' := #[.val (.int (own_u (own_u x (8 : Int32)) (4 : Int32))), .val (.int ((((31 : Int32) + (-8 : Int32)) + (-4 : Int32)) + (-2 : Int32)))]) rfl ?_
              show Steps p.tables e below (s₁.setTop (mkF m 69 #[.val (.int (own_u (own_u x (8 : Int32)) (4 : Int32))), .val (.int ((((31 : Int32) + (-8 : Int32)) + (-4 : Int32)) + (-2 : Int32)))] [])) _
              refine XS.iloadN X0.here hx rfl (hb hby d42_69) rfl ?_
              show Steps p.tables e below (s₁.setTop (mkF m 70 #[.val (.int (own_u (own_u x (8 : Int32)) (4 : Int32))), .val (.int ((((31 : Int32) + (-8 : Int32)) + (-4 : Int32)) + (-2 : Int32)))] [(.int (own_u (own_u x (8 : Int32)) (4 : Int32)))])) _
              refine XS.iconst X0.here hx rfl (hb hby d42_70) ?_
              show Steps p.tables e below (s₁.setTop (mkF m 71 #[.val (.int (own_u (own_u x (8 : Int32)) (4 : Int32))), .val (.int ((((31 : Int32) + (-8 : Int32)) + (-4 : Int32)) + (-2 : Int32)))] [(.int (2 : Int32)), (.int (own_u (own_u x (8 : Int32)) (4 : Int32)))])) _
              refine XS.iushr X0.here hx rfl (hb hby d42_71) rfl ?_
              show Steps p.tables e below (s₁.setTop (mkF m 72 #[.val (.int (own_u (own_u x (8 : Int32)) (4 : Int32))), .val (.int ((((31 : Int32) + (-8 : Int32)) + (-4 : Int32)) + (-2 : Int32)))] [(.int (own_u (own_u (own_u x (8 : Int32)) (4 : Int32)) (2 : Int32)))])) _
              refine XS.istoreN X0.here hx rfl (hb hby d42_72) rfl (l' := #[.val (.int (own_u (own_u (own_u x (8 : Int32)) (4 : Int32)) (2 : Int32))), .val (.int ((((31 : Int32) + (-8 : Int32)) + (-4 : Int32)) + (-2 : Int32)))]) rfl ?_
              show Steps p.tables e below (s₁.setTop (mkF m 73 #[.val (.int (own_u (own_u (own_u x (8 : Int32)) (4 : Int32)) (2 : Int32))), .val (.int ((((31 : Int32) + (-8 : Int32)) + (-4 : Int32)) + (-2 : Int32)))] [])) _
              refine XS.iloadN X0.here hx rfl (hb hby d42_73) rfl ?_
              show Steps p.tables e below (s₁.setTop (mkF m 74 #[.val (.int (own_u (own_u (own_u x (8 : Int32)) (4 : Int32)) (2 : Int32))), .val (.int ((((31 : Int32) + (-8 : Int32)) + (-4 : Int32)) + (-2 : Int32)))] [(.int ((((31 : Int32) + (-8 : Int32)) + (-4 : Int32)) + (-2 : Int32)))])) _
              refine XS.iloadN X0.here hx rfl (hb hby d42_74) rfl ?_
              show Steps p.tables e below (s₁.setTop (mkF m 75 #[.val (.int (own_u (own_u (own_u x (8 : Int32)) (4 : Int32)) (2 : Int32))), .val (.int ((((31 : Int32) + (-8 : Int32)) + (-4 : Int32)) + (-2 : Int32)))] [(.int (own_u (own_u (own_u x (8 : Int32)) (4 : Int32)) (2 : Int32))), (.int ((((31 : Int32) + (-8 : Int32)) + (-4 : Int32)) + (-2 : Int32)))])) _
              refine XS.iconst X0.here hx rfl (hb hby d42_75) ?_
              show Steps p.tables e below (s₁.setTop (mkF m 76 #[.val (.int (own_u (own_u (own_u x (8 : Int32)) (4 : Int32)) (2 : Int32))), .val (.int ((((31 : Int32) + (-8 : Int32)) + (-4 : Int32)) + (-2 : Int32)))] [(.int (1 : Int32)), (.int (own_u (own_u (own_u x (8 : Int32)) (4 : Int32)) (2 : Int32))), (.int ((((31 : Int32) + (-8 : Int32)) + (-4 : Int32)) + (-2 : Int32)))])) _
              refine XS.iushr X0.here hx rfl (hb hby d42_76) rfl ?_
              show Steps p.tables e below (s₁.setTop (mkF m 77 #[.val (.int (own_u (own_u (own_u x (8 : Int32)) (4 : Int32)) (2 : Int32))), .val (.int ((((31 : Int32) + (-8 : Int32)) + (-4 : Int32)) + (-2 : Int32)))] [(.int (own_u (own_u (own_u (own_u x (8 : Int32)) (4 : Int32)) (2 : Int32)) (1 : Int32))), (.int ((((31 : Int32) + (-8 : Int32)) + (-4 : Int32)) + (-2 : Int32)))])) _
              refine XS.isub X0.here hx rfl (hb hby d42_77) rfl ?_
              show Steps p.tables e below (s₁.setTop (mkF m 78 #[.val (.int (own_u (own_u (own_u x (8 : Int32)) (4 : Int32)) (2 : Int32))), .val (.int ((((31 : Int32) + (-8 : Int32)) + (-4 : Int32)) + (-2 : Int32)))] [(.int (((((31 : Int32) + (-8 : Int32)) + (-4 : Int32)) + (-2 : Int32)) - (own_u (own_u (own_u (own_u x (8 : Int32)) (4 : Int32)) (2 : Int32)) (1 : Int32))))])) _
              exact retI X0 hx Bd.returns (hb hby d42_78) hr
      · rw [if_neg ht1] at hr
        show Steps p.tables e below (s₁.setTop (mkF m 22 #[.val (.int x), .val (.int (31 : Int32))] [(.int (65536 : Int32)), (.int x)])) _
        refine XS.icmpNo X0.here hx rfl (hb hby d42_22) rfl (flt (ht1 : ¬ (x < (65536 : Int32)))).1 ?_
        refine XS.iinc X0.here hx rfl (hb hby d42_25) rfl (l' := #[.val (.int x), .val (.int ((31 : Int32) + (-16 : Int32)))]) rfl ?_
        refine XS.iloadN X0.here hx rfl (hb hby d42_28) rfl ?_
        refine XS.bipush X0.here hx rfl (hb hby d42_29) ?_
        refine XS.iushr X0.here hx rfl (hb hby d42_31) rfl ?_
        refine XS.istoreN X0.here hx rfl (hb hby d42_32) rfl (l' := #[.val (.int (own_u x (16 : Int32))), .val (.int ((31 : Int32) + (-16 : Int32)))]) rfl ?_
        refine XS.iloadN X0.here hx rfl (hb hby d42_33) rfl ?_
        refine XS.sipush X0.here hx rfl (hb hby d42_34) ?_
        by_cases ht2 : (own_u x (16 : Int32)) < (256 : Int32)
        · rw [if_pos ht2] at hr
          show Steps p.tables e below (s₁.setTop (mkF m 37 #[.val (.int (own_u x (16 : Int32))), .val (.int ((31 : Int32) + (-16 : Int32)))] [(.int (256 : Int32)), (.int (own_u x (16 : Int32)))])) _
          refine XS.icmpYes X0.here hx rfl (pc0 := 37) (pc' := 48) rfl (hb hby d42_37) rfl (tlt (ht2 : (own_u x (16 : Int32)) < (256 : Int32))).1 (by decide) (by decide) ?_
          refine XS.iloadN X0.here hx rfl (hb hby d42_48) rfl ?_
          refine XS.bipush X0.here hx rfl (hb hby d42_49) ?_
          by_cases ht3 : (own_u x (16 : Int32)) < (16 : Int32)
          · rw [if_pos ht3] at hr
            show Steps p.tables e below (s₁.setTop (mkF m 51 #[.val (.int (own_u x (16 : Int32))), .val (.int ((31 : Int32) + (-16 : Int32)))] [(.int (16 : Int32)), (.int (own_u x (16 : Int32)))])) _
            refine XS.icmpYes X0.here hx rfl (pc0 := 51) (pc' := 61) rfl (hb hby d42_51) rfl (tlt (ht3 : (own_u x (16 : Int32)) < (16 : Int32))).1 (by decide) (by decide) ?_
            refine XS.iloadN X0.here hx rfl (hb hby d42_61) rfl ?_
            refine XS.iconst X0.here hx rfl (hb hby d42_62) ?_
            by_cases ht4 : (own_u x (16 : Int32)) < (4 : Int32)
            · rw [if_pos ht4] at hr
              show Steps p.tables e below (s₁.setTop (mkF m 63 #[.val (.int (own_u x (16 : Int32))), .val (.int ((31 : Int32) + (-16 : Int32)))] [(.int (4 : Int32)), (.int (own_u x (16 : Int32)))])) _
              refine XS.icmpYes X0.here hx rfl (pc0 := 63) (pc' := 73) rfl (hb hby d42_63) rfl (tlt (ht4 : (own_u x (16 : Int32)) < (4 : Int32))).1 (by decide) (by decide) ?_
              show Steps p.tables e below (s₁.setTop (mkF m 73 #[.val (.int (own_u x (16 : Int32))), .val (.int ((31 : Int32) + (-16 : Int32)))] [])) _
              refine XS.iloadN X0.here hx rfl (hb hby d42_73) rfl ?_
              show Steps p.tables e below (s₁.setTop (mkF m 74 #[.val (.int (own_u x (16 : Int32))), .val (.int ((31 : Int32) + (-16 : Int32)))] [(.int ((31 : Int32) + (-16 : Int32)))])) _
              refine XS.iloadN X0.here hx rfl (hb hby d42_74) rfl ?_
              show Steps p.tables e below (s₁.setTop (mkF m 75 #[.val (.int (own_u x (16 : Int32))), .val (.int ((31 : Int32) + (-16 : Int32)))] [(.int (own_u x (16 : Int32))), (.int ((31 : Int32) + (-16 : Int32)))])) _
              refine XS.iconst X0.here hx rfl (hb hby d42_75) ?_
              show Steps p.tables e below (s₁.setTop (mkF m 76 #[.val (.int (own_u x (16 : Int32))), .val (.int ((31 : Int32) + (-16 : Int32)))] [(.int (1 : Int32)), (.int (own_u x (16 : Int32))), (.int ((31 : Int32) + (-16 : Int32)))])) _
              refine XS.iushr X0.here hx rfl (hb hby d42_76) rfl ?_
              show Steps p.tables e below (s₁.setTop (mkF m 77 #[.val (.int (own_u x (16 : Int32))), .val (.int ((31 : Int32) + (-16 : Int32)))] [(.int (own_u (own_u x (16 : Int32)) (1 : Int32))), (.int ((31 : Int32) + (-16 : Int32)))])) _
              refine XS.isub X0.here hx rfl (hb hby d42_77) rfl ?_
              show Steps p.tables e below (s₁.setTop (mkF m 78 #[.val (.int (own_u x (16 : Int32))), .val (.int ((31 : Int32) + (-16 : Int32)))] [(.int (((31 : Int32) + (-16 : Int32)) - (own_u (own_u x (16 : Int32)) (1 : Int32))))])) _
              exact retI X0 hx Bd.returns (hb hby d42_78) hr
            · rw [if_neg ht4] at hr
              show Steps p.tables e below (s₁.setTop (mkF m 63 #[.val (.int (own_u x (16 : Int32))), .val (.int ((31 : Int32) + (-16 : Int32)))] [(.int (4 : Int32)), (.int (own_u x (16 : Int32)))])) _
              refine XS.icmpNo X0.here hx rfl (hb hby d42_63) rfl (flt (ht4 : ¬ ((own_u x (16 : Int32)) < (4 : Int32)))).1 ?_
              show Steps p.tables e below (s₁.setTop (mkF m 66 #[.val (.int (own_u x (16 : Int32))), .val (.int ((31 : Int32) + (-16 : Int32)))] [])) _
              refine XS.iinc X0.here hx rfl (hb hby d42_66) rfl (l' := #[.val (.int (own_u x (16 : Int32))), .val (.int (((31 : Int32) + (-16 : Int32)) + (-2 : Int32)))]) rfl ?_
              show Steps p.tables e below (s₁.setTop (mkF m 69 #[.val (.int (own_u x (16 : Int32))), .val (.int (((31 : Int32) + (-16 : Int32)) + (-2 : Int32)))] [])) _
              refine XS.iloadN X0.here hx rfl (hb hby d42_69) rfl ?_
              show Steps p.tables e below (s₁.setTop (mkF m 70 #[.val (.int (own_u x (16 : Int32))), .val (.int (((31 : Int32) + (-16 : Int32)) + (-2 : Int32)))] [(.int (own_u x (16 : Int32)))])) _
              refine XS.iconst X0.here hx rfl (hb hby d42_70) ?_
              show Steps p.tables e below (s₁.setTop (mkF m 71 #[.val (.int (own_u x (16 : Int32))), .val (.int (((31 : Int32) + (-16 : Int32)) + (-2 : Int32)))] [(.int (2 : Int32)), (.int (own_u x (16 : Int32)))])) _
              refine XS.iushr X0.here hx rfl (hb hby d42_71) rfl ?_
              show Steps p.tables e below (s₁.setTop (mkF m 72 #[.val (.int (own_u x (16 : Int32))), .val (.int (((31 : Int32) + (-16 : Int32)) + (-2 : Int32)))] [(.int (own_u (own_u x (16 : Int32)) (2 : Int32)))])) _
              refine XS.istoreN X0.here hx rfl (hb hby d42_72) rfl (l' := #[.val (.int (own_u (own_u x (16 : Int32)) (2 : Int32))), .val (.int (((31 : Int32) + (-16 : Int32)) + (-2 : Int32)))]) rfl ?_
              show Steps p.tables e below (s₁.setTop (mkF m 73 #[.val (.int (own_u (own_u x (16 : Int32)) (2 : Int32))), .val (.int (((31 : Int32) + (-16 : Int32)) + (-2 : Int32)))] [])) _
              refine XS.iloadN X0.here hx rfl (hb hby d42_73) rfl ?_
              show Steps p.tables e below (s₁.setTop (mkF m 74 #[.val (.int (own_u (own_u x (16 : Int32)) (2 : Int32))), .val (.int (((31 : Int32) + (-16 : Int32)) + (-2 : Int32)))] [(.int (((31 : Int32) + (-16 : Int32)) + (-2 : Int32)))])) _
              refine XS.iloadN X0.here hx rfl (hb hby d42_74) rfl ?_
              show Steps p.tables e below (s₁.setTop (mkF m 75 #[.val (.int (own_u (own_u x (16 : Int32)) (2 : Int32))), .val (.int (((31 : Int32) + (-16 : Int32)) + (-2 : Int32)))] [(.int (own_u (own_u x (16 : Int32)) (2 : Int32))), (.int (((31 : Int32) + (-16 : Int32)) + (-2 : Int32)))])) _
              refine XS.iconst X0.here hx rfl (hb hby d42_75) ?_
              show Steps p.tables e below (s₁.setTop (mkF m 76 #[.val (.int (own_u (own_u x (16 : Int32)) (2 : Int32))), .val (.int (((31 : Int32) + (-16 : Int32)) + (-2 : Int32)))] [(.int (1 : Int32)), (.int (own_u (own_u x (16 : Int32)) (2 : Int32))), (.int (((31 : Int32) + (-16 : Int32)) + (-2 : Int32)))])) _
              refine XS.iushr X0.here hx rfl (hb hby d42_76) rfl ?_
              show Steps p.tables e below (s₁.setTop (mkF m 77 #[.val (.int (own_u (own_u x (16 : Int32)) (2 : Int32))), .val (.int (((31 : Int32) + (-16 : Int32)) + (-2 : Int32)))] [(.int (own_u (own_u (own_u x (16 : Int32)) (2 : Int32)) (1 : Int32))), (.int (((31 : Int32) + (-16 : Int32)) + (-2 : Int32)))])) _
              refine XS.isub X0.here hx rfl (hb hby d42_77) rfl ?_
              show Steps p.tables e below (s₁.setTop (mkF m 78 #[.val (.int (own_u (own_u x (16 : Int32)) (2 : Int32))), .val (.int (((31 : Int32) + (-16 : Int32)) + (-2 : Int32)))] [(.int ((((31 : Int32) + (-16 : Int32)) + (-2 : Int32)) - (own_u (own_u (own_u x (16 : Int32)) (2 : Int32)) (1 : Int32))))])) _
              exact retI X0 hx Bd.returns (hb hby d42_78) hr
          · rw [if_neg ht3] at hr
            show Steps p.tables e below (s₁.setTop (mkF m 51 #[.val (.int (own_u x (16 : Int32))), .val (.int ((31 : Int32) + (-16 : Int32)))] [(.int (16 : Int32)), (.int (own_u x (16 : Int32)))])) _
            refine XS.icmpNo X0.here hx rfl (hb hby d42_51) rfl (flt (ht3 : ¬ ((own_u x (16 : Int32)) < (16 : Int32)))).1 ?_
            refine XS.iinc X0.here hx rfl (hb hby d42_54) rfl (l' := #[.val (.int (own_u x (16 : Int32))), .val (.int (((31 : Int32) + (-16 : Int32)) + (-4 : Int32)))]) rfl ?_
            refine XS.iloadN X0.here hx rfl (hb hby d42_57) rfl ?_
            refine XS.iconst X0.here hx rfl (hb hby d42_58) ?_
            refine XS.iushr X0.here hx rfl (hb hby d42_59) rfl ?_
            refine XS.istoreN X0.here hx rfl (hb hby d42_60) rfl (l' := #[.val (.int (own_u (own_u x (16 : Int32)) (4 : Int32))), .val (.int (((31 : Int32) + (-16 : Int32)) + (-4 : Int32)))]) rfl ?_
            refine XS.iloadN X0.here hx rfl (hb hby d42_61) rfl ?_
            refine XS.iconst X0.here hx rfl (hb hby d42_62) ?_
            by_cases ht4 : (own_u (own_u x (16 : Int32)) (4 : Int32)) < (4 : Int32)
            · rw [if_pos ht4] at hr
              show Steps p.tables e below (s₁.setTop (mkF m 63 #[.val (.int (own_u (own_u x (16 : Int32)) (4 : Int32))), .val (.int (((31 : Int32) + (-16 : Int32)) + (-4 : Int32)))] [(.int (4 : Int32)), (.int (own_u (own_u x (16 : Int32)) (4 : Int32)))])) _
              refine XS.icmpYes X0.here hx rfl (pc0 := 63) (pc' := 73) rfl (hb hby d42_63) rfl (tlt (ht4 : (own_u (own_u x (16 : Int32)) (4 : Int32)) < (4 : Int32))).1 (by decide) (by decide) ?_
              show Steps p.tables e below (s₁.setTop (mkF m 73 #[.val (.int (own_u (own_u x (16 : Int32)) (4 : Int32))), .val (.int (((31 : Int32) + (-16 : Int32)) + (-4 : Int32)))] [])) _
              refine XS.iloadN X0.here hx rfl (hb hby d42_73) rfl ?_
              show Steps p.tables e below (s₁.setTop (mkF m 74 #[.val (.int (own_u (own_u x (16 : Int32)) (4 : Int32))), .val (.int (((31 : Int32) + (-16 : Int32)) + (-4 : Int32)))] [(.int (((31 : Int32) + (-16 : Int32)) + (-4 : Int32)))])) _
              refine XS.iloadN X0.here hx rfl (hb hby d42_74) rfl ?_
              show Steps p.tables e below (s₁.setTop (mkF m 75 #[.val (.int (own_u (own_u x (16 : Int32)) (4 : Int32))), .val (.int (((31 : Int32) + (-16 : Int32)) + (-4 : Int32)))] [(.int (own_u (own_u x (16 : Int32)) (4 : Int32))), (.int (((31 : Int32) + (-16 : Int32)) + (-4 : Int32)))])) _
              refine XS.iconst X0.here hx rfl (hb hby d42_75) ?_
              show Steps p.tables e below (s₁.setTop (mkF m 76 #[.val (.int (own_u (own_u x (16 : Int32)) (4 : Int32))), .val (.int (((31 : Int32) + (-16 : Int32)) + (-4 : Int32)))] [(.int (1 : Int32)), (.int (own_u (own_u x (16 : Int32)) (4 : Int32))), (.int (((31 : Int32) + (-16 : Int32)) + (-4 : Int32)))])) _
              refine XS.iushr X0.here hx rfl (hb hby d42_76) rfl ?_
              show Steps p.tables e below (s₁.setTop (mkF m 77 #[.val (.int (own_u (own_u x (16 : Int32)) (4 : Int32))), .val (.int (((31 : Int32) + (-16 : Int32)) + (-4 : Int32)))] [(.int (own_u (own_u (own_u x (16 : Int32)) (4 : Int32)) (1 : Int32))), (.int (((31 : Int32) + (-16 : Int32)) + (-4 : Int32)))])) _
              refine XS.isub X0.here hx rfl (hb hby d42_77) rfl ?_
              show Steps p.tables e below (s₁.setTop (mkF m 78 #[.val (.int (own_u (own_u x (16 : Int32)) (4 : Int32))), .val (.int (((31 : Int32) + (-16 : Int32)) + (-4 : Int32)))] [(.int ((((31 : Int32) + (-16 : Int32)) + (-4 : Int32)) - (own_u (own_u (own_u x (16 : Int32)) (4 : Int32)) (1 : Int32))))])) _
              exact retI X0 hx Bd.returns (hb hby d42_78) hr
            · rw [if_neg ht4] at hr
              show Steps p.tables e below (s₁.setTop (mkF m 63 #[.val (.int (own_u (own_u x (16 : Int32)) (4 : Int32))), .val (.int (((31 : Int32) + (-16 : Int32)) + (-4 : Int32)))] [(.int (4 : Int32)), (.int (own_u (own_u x (16 : Int32)) (4 : Int32)))])) _
              refine XS.icmpNo X0.here hx rfl (hb hby d42_63) rfl (flt (ht4 : ¬ ((own_u (own_u x (16 : Int32)) (4 : Int32)) < (4 : Int32)))).1 ?_
              show Steps p.tables e below (s₁.setTop (mkF m 66 #[.val (.int (own_u (own_u x (16 : Int32)) (4 : Int32))), .val (.int (((31 : Int32) + (-16 : Int32)) + (-4 : Int32)))] [])) _
              refine XS.iinc X0.here hx rfl (hb hby d42_66) rfl (l' := #[.val (.int (own_u (own_u x (16 : Int32)) (4 : Int32))), .val (.int ((((31 : Int32) + (-16 : Int32)) + (-4 : Int32)) + (-2 : Int32)))]) rfl ?_
              show Steps p.tables e below (s₁.setTop (mkF m 69 #[.val (.int (own_u (own_u x (16 : Int32)) (4 : Int32))), .val (.int ((((31 : Int32) + (-16 : Int32)) + (-4 : Int32)) + (-2 : Int32)))] [])) _
              refine XS.iloadN X0.here hx rfl (hb hby d42_69) rfl ?_
              show Steps p.tables e below (s₁.setTop (mkF m 70 #[.val (.int (own_u (own_u x (16 : Int32)) (4 : Int32))), .val (.int ((((31 : Int32) + (-16 : Int32)) + (-4 : Int32)) + (-2 : Int32)))] [(.int (own_u (own_u x (16 : Int32)) (4 : Int32)))])) _
              refine XS.iconst X0.here hx rfl (hb hby d42_70) ?_
              show Steps p.tables e below (s₁.setTop (mkF m 71 #[.val (.int (own_u (own_u x (16 : Int32)) (4 : Int32))), .val (.int ((((31 : Int32) + (-16 : Int32)) + (-4 : Int32)) + (-2 : Int32)))] [(.int (2 : Int32)), (.int (own_u (own_u x (16 : Int32)) (4 : Int32)))])) _
              refine XS.iushr X0.here hx rfl (hb hby d42_71) rfl ?_
              show Steps p.tables e below (s₁.setTop (mkF m 72 #[.val (.int (own_u (own_u x (16 : Int32)) (4 : Int32))), .val (.int ((((31 : Int32) + (-16 : Int32)) + (-4 : Int32)) + (-2 : Int32)))] [(.int (own_u (own_u (own_u x (16 : Int32)) (4 : Int32)) (2 : Int32)))])) _
              refine XS.istoreN X0.here hx rfl (hb hby d42_72) rfl (l' := #[.val (.int (own_u (own_u (own_u x (16 : Int32)) (4 : Int32)) (2 : Int32))), .val (.int ((((31 : Int32) + (-16 : Int32)) + (-4 : Int32)) + (-2 : Int32)))]) rfl ?_
              show Steps p.tables e below (s₁.setTop (mkF m 73 #[.val (.int (own_u (own_u (own_u x (16 : Int32)) (4 : Int32)) (2 : Int32))), .val (.int ((((31 : Int32) + (-16 : Int32)) + (-4 : Int32)) + (-2 : Int32)))] [])) _
              refine XS.iloadN X0.here hx rfl (hb hby d42_73) rfl ?_
              show Steps p.tables e below (s₁.setTop (mkF m 74 #[.val (.int (own_u (own_u (own_u x (16 : Int32)) (4 : Int32)) (2 : Int32))), .val (.int ((((31 : Int32) + (-16 : Int32)) + (-4 : Int32)) + (-2 : Int32)))] [(.int ((((31 : Int32) + (-16 : Int32)) + (-4 : Int32)) + (-2 : Int32)))])) _
              refine XS.iloadN X0.here hx rfl (hb hby d42_74) rfl ?_
              show Steps p.tables e below (s₁.setTop (mkF m 75 #[.val (.int (own_u (own_u (own_u x (16 : Int32)) (4 : Int32)) (2 : Int32))), .val (.int ((((31 : Int32) + (-16 : Int32)) + (-4 : Int32)) + (-2 : Int32)))] [(.int (own_u (own_u (own_u x (16 : Int32)) (4 : Int32)) (2 : Int32))), (.int ((((31 : Int32) + (-16 : Int32)) + (-4 : Int32)) + (-2 : Int32)))])) _
              refine XS.iconst X0.here hx rfl (hb hby d42_75) ?_
              show Steps p.tables e below (s₁.setTop (mkF m 76 #[.val (.int (own_u (own_u (own_u x (16 : Int32)) (4 : Int32)) (2 : Int32))), .val (.int ((((31 : Int32) + (-16 : Int32)) + (-4 : Int32)) + (-2 : Int32)))] [(.int (1 : Int32)), (.int (own_u (own_u (own_u x (16 : Int32)) (4 : Int32)) (2 : Int32))), (.int ((((31 : Int32) + (-16 : Int32)) + (-4 : Int32)) + (-2 : Int32)))])) _
              refine XS.iushr X0.here hx rfl (hb hby d42_76) rfl ?_
              show Steps p.tables e below (s₁.setTop (mkF m 77 #[.val (.int (own_u (own_u (own_u x (16 : Int32)) (4 : Int32)) (2 : Int32))), .val (.int ((((31 : Int32) + (-16 : Int32)) + (-4 : Int32)) + (-2 : Int32)))] [(.int (own_u (own_u (own_u (own_u x (16 : Int32)) (4 : Int32)) (2 : Int32)) (1 : Int32))), (.int ((((31 : Int32) + (-16 : Int32)) + (-4 : Int32)) + (-2 : Int32)))])) _
              refine XS.isub X0.here hx rfl (hb hby d42_77) rfl ?_
              show Steps p.tables e below (s₁.setTop (mkF m 78 #[.val (.int (own_u (own_u (own_u x (16 : Int32)) (4 : Int32)) (2 : Int32))), .val (.int ((((31 : Int32) + (-16 : Int32)) + (-4 : Int32)) + (-2 : Int32)))] [(.int (((((31 : Int32) + (-16 : Int32)) + (-4 : Int32)) + (-2 : Int32)) - (own_u (own_u (own_u (own_u x (16 : Int32)) (4 : Int32)) (2 : Int32)) (1 : Int32))))])) _
              exact retI X0 hx Bd.returns (hb hby d42_78) hr
        · rw [if_neg ht2] at hr
          show Steps p.tables e below (s₁.setTop (mkF m 37 #[.val (.int (own_u x (16 : Int32))), .val (.int ((31 : Int32) + (-16 : Int32)))] [(.int (256 : Int32)), (.int (own_u x (16 : Int32)))])) _
          refine XS.icmpNo X0.here hx rfl (hb hby d42_37) rfl (flt (ht2 : ¬ ((own_u x (16 : Int32)) < (256 : Int32)))).1 ?_
          refine XS.iinc X0.here hx rfl (hb hby d42_40) rfl (l' := #[.val (.int (own_u x (16 : Int32))), .val (.int (((31 : Int32) + (-16 : Int32)) + (-8 : Int32)))]) rfl ?_
          refine XS.iloadN X0.here hx rfl (hb hby d42_43) rfl ?_
          refine XS.bipush X0.here hx rfl (hb hby d42_44) ?_
          refine XS.iushr X0.here hx rfl (hb hby d42_46) rfl ?_
          refine XS.istoreN X0.here hx rfl (hb hby d42_47) rfl (l' := #[.val (.int (own_u (own_u x (16 : Int32)) (8 : Int32))), .val (.int (((31 : Int32) + (-16 : Int32)) + (-8 : Int32)))]) rfl ?_
          refine XS.iloadN X0.here hx rfl (hb hby d42_48) rfl ?_
          refine XS.bipush X0.here hx rfl (hb hby d42_49) ?_
          by_cases ht3 : (own_u (own_u x (16 : Int32)) (8 : Int32)) < (16 : Int32)
          · rw [if_pos ht3] at hr
            show Steps p.tables e below (s₁.setTop (mkF m 51 #[.val (.int (own_u (own_u x (16 : Int32)) (8 : Int32))), .val (.int (((31 : Int32) + (-16 : Int32)) + (-8 : Int32)))] [(.int (16 : Int32)), (.int (own_u (own_u x (16 : Int32)) (8 : Int32)))])) _
            refine XS.icmpYes X0.here hx rfl (pc0 := 51) (pc' := 61) rfl (hb hby d42_51) rfl (tlt (ht3 : (own_u (own_u x (16 : Int32)) (8 : Int32)) < (16 : Int32))).1 (by decide) (by decide) ?_
            refine XS.iloadN X0.here hx rfl (hb hby d42_61) rfl ?_
            refine XS.iconst X0.here hx rfl (hb hby d42_62) ?_
            by_cases ht4 : (own_u (own_u x (16 : Int32)) (8 : Int32)) < (4 : Int32)
            · rw [if_pos ht4] at hr
              show Steps p.tables e below (s₁.setTop (mkF m 63 #[.val (.int (own_u (own_u x (16 : Int32)) (8 : Int32))), .val (.int (((31 : Int32) + (-16 : Int32)) + (-8 : Int32)))] [(.int (4 : Int32)), (.int (own_u (own_u x (16 : Int32)) (8 : Int32)))])) _
              refine XS.icmpYes X0.here hx rfl (pc0 := 63) (pc' := 73) rfl (hb hby d42_63) rfl (tlt (ht4 : (own_u (own_u x (16 : Int32)) (8 : Int32)) < (4 : Int32))).1 (by decide) (by decide) ?_
              show Steps p.tables e below (s₁.setTop (mkF m 73 #[.val (.int (own_u (own_u x (16 : Int32)) (8 : Int32))), .val (.int (((31 : Int32) + (-16 : Int32)) + (-8 : Int32)))] [])) _
              refine XS.iloadN X0.here hx rfl (hb hby d42_73) rfl ?_
              show Steps p.tables e below (s₁.setTop (mkF m 74 #[.val (.int (own_u (own_u x (16 : Int32)) (8 : Int32))), .val (.int (((31 : Int32) + (-16 : Int32)) + (-8 : Int32)))] [(.int (((31 : Int32) + (-16 : Int32)) + (-8 : Int32)))])) _
              refine XS.iloadN X0.here hx rfl (hb hby d42_74) rfl ?_
              show Steps p.tables e below (s₁.setTop (mkF m 75 #[.val (.int (own_u (own_u x (16 : Int32)) (8 : Int32))), .val (.int (((31 : Int32) + (-16 : Int32)) + (-8 : Int32)))] [(.int (own_u (own_u x (16 : Int32)) (8 : Int32))), (.int (((31 : Int32) + (-16 : Int32)) + (-8 : Int32)))])) _
              refine XS.iconst X0.here hx rfl (hb hby d42_75) ?_
              show Steps p.tables e below (s₁.setTop (mkF m 76 #[.val (.int (own_u (own_u x (16 : Int32)) (8 : Int32))), .val (.int (((31 : Int32) + (-16 : Int32)) + (-8 : Int32)))] [(.int (1 : Int32)), (.int (own_u (own_u x (16 : Int32)) (8 : Int32))), (.int (((31 : Int32) + (-16 : Int32)) + (-8 : Int32)))])) _
              refine XS.iushr X0.here hx rfl (hb hby d42_76) rfl ?_
              show Steps p.tables e below (s₁.setTop (mkF m 77 #[.val (.int (own_u (own_u x (16 : Int32)) (8 : Int32))), .val (.int (((31 : Int32) + (-16 : Int32)) + (-8 : Int32)))] [(.int (own_u (own_u (own_u x (16 : Int32)) (8 : Int32)) (1 : Int32))), (.int (((31 : Int32) + (-16 : Int32)) + (-8 : Int32)))])) _
              refine XS.isub X0.here hx rfl (hb hby d42_77) rfl ?_
              show Steps p.tables e below (s₁.setTop (mkF m 78 #[.val (.int (own_u (own_u x (16 : Int32)) (8 : Int32))), .val (.int (((31 : Int32) + (-16 : Int32)) + (-8 : Int32)))] [(.int ((((31 : Int32) + (-16 : Int32)) + (-8 : Int32)) - (own_u (own_u (own_u x (16 : Int32)) (8 : Int32)) (1 : Int32))))])) _
              exact retI X0 hx Bd.returns (hb hby d42_78) hr
            · rw [if_neg ht4] at hr
              show Steps p.tables e below (s₁.setTop (mkF m 63 #[.val (.int (own_u (own_u x (16 : Int32)) (8 : Int32))), .val (.int (((31 : Int32) + (-16 : Int32)) + (-8 : Int32)))] [(.int (4 : Int32)), (.int (own_u (own_u x (16 : Int32)) (8 : Int32)))])) _
              refine XS.icmpNo X0.here hx rfl (hb hby d42_63) rfl (flt (ht4 : ¬ ((own_u (own_u x (16 : Int32)) (8 : Int32)) < (4 : Int32)))).1 ?_
              show Steps p.tables e below (s₁.setTop (mkF m 66 #[.val (.int (own_u (own_u x (16 : Int32)) (8 : Int32))), .val (.int (((31 : Int32) + (-16 : Int32)) + (-8 : Int32)))] [])) _
              refine XS.iinc X0.here hx rfl (hb hby d42_66) rfl (l' := #[.val (.int (own_u (own_u x (16 : Int32)) (8 : Int32))), .val (.int ((((31 : Int32) + (-16 : Int32)) + (-8 : Int32)) + (-2 : Int32)))]) rfl ?_
              show Steps p.tables e below (s₁.setTop (mkF m 69 #[.val (.int (own_u (own_u x (16 : Int32)) (8 : Int32))), .val (.int ((((31 : Int32) + (-16 : Int32)) + (-8 : Int32)) + (-2 : Int32)))] [])) _
              refine XS.iloadN X0.here hx rfl (hb hby d42_69) rfl ?_
              show Steps p.tables e below (s₁.setTop (mkF m 70 #[.val (.int (own_u (own_u x (16 : Int32)) (8 : Int32))), .val (.int ((((31 : Int32) + (-16 : Int32)) + (-8 : Int32)) + (-2 : Int32)))] [(.int (own_u (own_u x (16 : Int32)) (8 : Int32)))])) _
              refine XS.iconst X0.here hx rfl (hb hby d42_70) ?_
              show Steps p.tables e below (s₁.setTop (mkF m 71 #[.val (.int (own_u (own_u x (16 : Int32)) (8 : Int32))), .val (.int ((((31 : Int32) + (-16 : Int32)) + (-8 : Int32)) + (-2 : Int32)))] [(.int (2 : Int32)), (.int (own_u (own_u x (16 : Int32)) (8 : Int32)))])) _
              refine XS.iushr X0.here hx rfl (hb hby d42_71) rfl ?_
              show Steps p.tables e below (s₁.setTop (mkF m 72 #[.val (.int (own_u (own_u x (16 : Int32)) (8 : Int32))), .val (.int ((((31 : Int32) + (-16 : Int32)) + (-8 : Int32)) + (-2 : Int32)))] [(.int (own_u (own_u (own_u x (16 : Int32)) (8 : Int32)) (2 : Int32)))])) _
              refine XS.istoreN X0.here hx rfl (hb hby d42_72) rfl (l' := #[.val (.int (own_u (own_u (own_u x (16 : Int32)) (8 : Int32)) (2 : Int32))), .val (.int ((((31 : Int32) + (-16 : Int32)) + (-8 : Int32)) + (-2 : Int32)))]) rfl ?_
              show Steps p.tables e below (s₁.setTop (mkF m 73 #[.val (.int (own_u (own_u (own_u x (16 : Int32)) (8 : Int32)) (2 : Int32))), .val (.int ((((31 : Int32) + (-16 : Int32)) + (-8 : Int32)) + (-2 : Int32)))] [])) _
              refine XS.iloadN X0.here hx rfl (hb hby d42_73) rfl ?_
              show Steps p.tables e below (s₁.setTop (mkF m 74 #[.val (.int (own_u (own_u (own_u x (16 : Int32)) (8 : Int32)) (2 : Int32))), .val (.int ((((31 : Int32) + (-16 : Int32)) + (-8 : Int32)) + (-2 : Int32)))] [(.int ((((31 : Int32) + (-16 : Int32)) + (-8 : Int32)) + (-2 : Int32)))])) _
              refine XS.iloadN X0.here hx rfl (hb hby d42_74) rfl ?_
              show Steps p.tables e below (s₁.setTop (mkF m 75 #[.val (.int (own_u (own_u (own_u x (16 : Int32)) (8 : Int32)) (2 : Int32))), .val (.int ((((31 : Int32) + (-16 : Int32)) + (-8 : Int32)) + (-2 : Int32)))] [(.int (own_u (own_u (own_u x (16 : Int32)) (8 : Int32)) (2 : Int32))), (.int ((((31 : Int32) + (-16 : Int32)) + (-8 : Int32)) + (-2 : Int32)))])) _
              refine XS.iconst X0.here hx rfl (hb hby d42_75) ?_
              show Steps p.tables e below (s₁.setTop (mkF m 76 #[.val (.int (own_u (own_u (own_u x (16 : Int32)) (8 : Int32)) (2 : Int32))), .val (.int ((((31 : Int32) + (-16 : Int32)) + (-8 : Int32)) + (-2 : Int32)))] [(.int (1 : Int32)), (.int (own_u (own_u (own_u x (16 : Int32)) (8 : Int32)) (2 : Int32))), (.int ((((31 : Int32) + (-16 : Int32)) + (-8 : Int32)) + (-2 : Int32)))])) _
              refine XS.iushr X0.here hx rfl (hb hby d42_76) rfl ?_
              show Steps p.tables e below (s₁.setTop (mkF m 77 #[.val (.int (own_u (own_u (own_u x (16 : Int32)) (8 : Int32)) (2 : Int32))), .val (.int ((((31 : Int32) + (-16 : Int32)) + (-8 : Int32)) + (-2 : Int32)))] [(.int (own_u (own_u (own_u (own_u x (16 : Int32)) (8 : Int32)) (2 : Int32)) (1 : Int32))), (.int ((((31 : Int32) + (-16 : Int32)) + (-8 : Int32)) + (-2 : Int32)))])) _
              refine XS.isub X0.here hx rfl (hb hby d42_77) rfl ?_
              show Steps p.tables e below (s₁.setTop (mkF m 78 #[.val (.int (own_u (own_u (own_u x (16 : Int32)) (8 : Int32)) (2 : Int32))), .val (.int ((((31 : Int32) + (-16 : Int32)) + (-8 : Int32)) + (-2 : Int32)))] [(.int (((((31 : Int32) + (-16 : Int32)) + (-8 : Int32)) + (-2 : Int32)) - (own_u (own_u (own_u (own_u x (16 : Int32)) (8 : Int32)) (2 : Int32)) (1 : Int32))))])) _
              exact retI X0 hx Bd.returns (hb hby d42_78) hr
          · rw [if_neg ht3] at hr
            show Steps p.tables e below (s₁.setTop (mkF m 51 #[.val (.int (own_u (own_u x (16 : Int32)) (8 : Int32))), .val (.int (((31 : Int32) + (-16 : Int32)) + (-8 : Int32)))] [(.int (16 : Int32)), (.int (own_u (own_u x (16 : Int32)) (8 : Int32)))])) _
            refine XS.icmpNo X0.here hx rfl (hb hby d42_51) rfl (flt (ht3 : ¬ ((own_u (own_u x (16 : Int32)) (8 : Int32)) < (16 : Int32)))).1 ?_
            refine XS.iinc X0.here hx rfl (hb hby d42_54) rfl (l' := #[.val (.int (own_u (own_u x (16 : Int32)) (8 : Int32))), .val (.int ((((31 : Int32) + (-16 : Int32)) + (-8 : Int32)) + (-4 : Int32)))]) rfl ?_
            refine XS.iloadN X0.here hx rfl (hb hby d42_57) rfl ?_
            refine XS.iconst X0.here hx rfl (hb hby d42_58) ?_
            refine XS.iushr X0.here hx rfl (hb hby d42_59) rfl ?_
            refine XS.istoreN X0.here hx rfl (hb hby d42_60) rfl (l' := #[.val (.int (own_u (own_u (own_u x (16 : Int32)) (8 : Int32)) (4 : Int32))), .val (.int ((((31 : Int32) + (-16 : Int32)) + (-8 : Int32)) + (-4 : Int32)))]) rfl ?_
            refine XS.iloadN X0.here hx rfl (hb hby d42_61) rfl ?_
            refine XS.iconst X0.here hx rfl (hb hby d42_62) ?_
            by_cases ht4 : (own_u (own_u (own_u x (16 : Int32)) (8 : Int32)) (4 : Int32)) < (4 : Int32)
            · rw [if_pos ht4] at hr
              show Steps p.tables e below (s₁.setTop (mkF m 63 #[.val (.int (own_u (own_u (own_u x (16 : Int32)) (8 : Int32)) (4 : Int32))), .val (.int ((((31 : Int32) + (-16 : Int32)) + (-8 : Int32)) + (-4 : Int32)))] [(.int (4 : Int32)), (.int (own_u (own_u (own_u x (16 : Int32)) (8 : Int32)) (4 : Int32)))])) _
              refine XS.icmpYes X0.here hx rfl (pc0 := 63) (pc' := 73) rfl (hb hby d42_63) rfl (tlt (ht4 : (own_u (own_u (own_u x (16 : Int32)) (8 : Int32)) (4 : Int32)) < (4 : Int32))).1 (by decide) (by decide) ?_
              show Steps p.tables e below (s₁.setTop (mkF m 73 #[.val (.int (own_u (own_u (own_u x (16 : Int32)) (8 : Int32)) (4 : Int32))), .val (.int ((((31 : Int32) + (-16 : Int32)) + (-8 : Int32)) + (-4 : Int32)))] [])) _
              refine XS.iloadN X0.here hx rfl (hb hby d42_73) rfl ?_
              show Steps p.tables e below (s₁.setTop (mkF m 74 #[.val (.int (own_u (own_u (own_u x (16 : Int32)) (8 : Int32)) (4 : Int32))), .val (.int ((((31 : Int32) + (-16 : Int32)) + (-8 : Int32)) + (-4 : Int32)))] [(.int ((((31 : Int32) + (-16 : Int32)) + (-8 : Int32)) + (-4 : Int32)))])) _
              refine XS.iloadN X0.here hx rfl (hb hby d42_74) rfl ?_
              show Steps p.tables e below (s₁.setTop (mkF m 75 #[.val (.int (own_u (own_u (own_u x (16 : Int32)) (8 : Int32)) (4 : Int32))), .val (.int ((((31 : Int32) + (-16 : Int32)) + (-8 : Int32)) + (-4 : Int32)))] [(.int (own_u (own_u (own_u x (16 : Int32)) (8 : Int32)) (4 : Int32))), (.int ((((31 : Int32) + (-16 : Int32)) + (-8 : Int32)) + (-4 : Int32)))])) _
              refine XS.iconst X0.here hx rfl (hb hby d42_75) ?_
              show Steps p.tables e below (s₁.setTop (mkF m 76 #[.val (.int (own_u (own_u (own_u x (16 : Int32)) (8 : Int32)) (4 : Int32))), .val (.int ((((31 : Int32) + (-16 : Int32)) + (-8 : Int32)) + (-4 : Int32)))] [(.int (1 : Int32)), (.int (own_u (own_u (own_u x (16 : Int32)) (8 : Int32)) (4 : Int32))), (.int ((((31 : Int32) + (-16 : Int32)) + (-8 : Int32)) + (-4 : Int32)))])) _
              refine XS.iushr X0.here hx rfl (hb hby d42_76) rfl ?_
              show Steps p.tables e below (s₁.setTop (mkF m 77 #[.val (.int (own_u (own_u (own_u x (16 : Int32)) (8 : Int32)) (4 : Int32))), .val (.int ((((31 : Int32) + (-16 : Int32)) + (-8 : Int32)) + (-4 : Int32)))] [(.int (own_u (own_u (own_u (own_u x (16 : Int32)) (8 : Int32)) (4 : Int32)) (1 : Int32))), (.int ((((31 : Int32) + (-16 : Int32)) + (-8 : Int32)) + (-4 : Int32)))])) _
              refine XS.isub X0.here hx rfl (hb hby d42_77) rfl ?_
              show Steps p.tables e below (s₁.setTop (mkF m 78 #[.val (.int (own_u (own_u (own_u x (16 : Int32)) (8 : Int32)) (4 : Int32))), .val (.int ((((31 : Int32) + (-16 : Int32)) + (-8 : Int32)) + (-4 : Int32)))] [(.int (((((31 : Int32) + (-16 : Int32)) + (-8 : Int32)) + (-4 : Int32)) - (own_u (own_u (own_u (own_u x (16 : Int32)) (8 : Int32)) (4 : Int32)) (1 : Int32))))])) _
              exact retI X0 hx Bd.returns (hb hby d42_78) hr
            · rw [if_neg ht4] at hr
              show Steps p.tables e below (s₁.setTop (mkF m 63 #[.val (.int (own_u (own_u (own_u x (16 : Int32)) (8 : Int32)) (4 : Int32))), .val (.int ((((31 : Int32) + (-16 : Int32)) + (-8 : Int32)) + (-4 : Int32)))] [(.int (4 : Int32)), (.int (own_u (own_u (own_u x (16 : Int32)) (8 : Int32)) (4 : Int32)))])) _
              refine XS.icmpNo X0.here hx rfl (hb hby d42_63) rfl (flt (ht4 : ¬ ((own_u (own_u (own_u x (16 : Int32)) (8 : Int32)) (4 : Int32)) < (4 : Int32)))).1 ?_
              show Steps p.tables e below (s₁.setTop (mkF m 66 #[.val (.int (own_u (own_u (own_u x (16 : Int32)) (8 : Int32)) (4 : Int32))), .val (.int ((((31 : Int32) + (-16 : Int32)) + (-8 : Int32)) + (-4 : Int32)))] [])) _
              refine XS.iinc X0.here hx rfl (hb hby d42_66) rfl (l' := #[.val (.int (own_u (own_u (own_u x (16 : Int32)) (8 : Int32)) (4 : Int32))), .val (.int (((((31 : Int32) + (-16 : Int32)) + (-8 : Int32)) + (-4 : Int32)) + (-2 : Int32)))]) rfl ?_
              show Steps p.tables e below (s₁.setTop (mkF m 69 #[.val (.int (own_u (own_u (own_u x (16 : Int32)) (8 : Int32)) (4 : Int32))), .val (.int (((((31 : Int32) + (-16 : Int32)) + (-8 : Int32)) + (-4 : Int32)) + (-2 : Int32)))] [])) _
              refine XS.iloadN X0.here hx rfl (hb hby d42_69) rfl ?_
              show Steps p.tables e below (s₁.setTop (mkF m 70 #[.val (.int (own_u (own_u (own_u x (16 : Int32)) (8 : Int32)) (4 : Int32))), .val (.int (((((31 : Int32) + (-16 : Int32)) + (-8 : Int32)) + (-4 : Int32)) + (-2 : Int32)))] [(.int (own_u (own_u (own_u x (16 : Int32)) (8 : Int32)) (4 : Int32)))])) _
              refine XS.iconst X0.here hx rfl (hb hby d42_70) ?_
              show Steps p.tables e below (s₁.setTop (mkF m 71 #[.val (.int (own_u (own_u (own_u x (16 : Int32)) (8 : Int32)) (4 : Int32))), .val (.int (((((31 : Int32) + (-16 : Int32)) + (-8 : Int32)) + (-4 : Int32)) + (-2 : Int32)))] [(.int (2 : Int32)), (.int (own_u (own_u (own_u x (16 : Int32)) (8 : Int32)) (4 : Int32)))])) _
              refine XS.iushr X0.here hx rfl (hb hby d42_71) rfl ?_
              show Steps p.tables e below (s₁.setTop (mkF m 72 #[.val (.int (own_u (own_u (own_u x (16 : Int32)) (8 : Int32)) (4 : Int32))), .val (.int (((((31 : Int32) + (-16 : Int32)) + (-8 : Int32)) + (-4 : Int32)) + (-2 : Int32)))] [(.int (own_u (own_u (own_u (own_u x (16 : Int32)) (8 : Int32)) (4 : Int32)) (2 : Int32)))])) _
              refine XS.istoreN X0.here hx rfl (hb hby d42_72) rfl (l' := #[.val (.int (own_u (own_u (own_u (own_u x (16 : Int32)) (8 : Int32)) (4 : Int32)) (2 : Int32))), .val (.int (((((31 : Int32) + (-16 : Int32)) + (-8 : Int32)) + (-4 : Int32)) + (-2 : Int32)))]) rfl ?_
              show Steps p.tables e below (s₁.setTop (mkF m 73 #[.val (.int (own_u (own_u (own_u (own_u x (16 : Int32)) (8 : Int32)) (4 : Int32)) (2 : Int32))), .val (.int (((((31 : Int32) + (-16 : Int32)) + (-8 : Int32)) + (-4 : Int32)) + (-2 : Int32)))] [])) _
              refine XS.iloadN X0.here hx rfl (hb hby d42_73) rfl ?_
              show Steps p.tables e below (s₁.setTop (mkF m 74 #[.val (.int (own_u (own_u (own_u (own_u x (16 : Int32)) (8 : Int32)) (4 : Int32)) (2 : Int32))), .val (.int (((((31 : Int32) + (-16 : Int32)) + (-8 : Int32)) + (-4 : Int32)) + (-2 : Int32)))] [(.int (((((31 : Int32) + (-16 : Int32)) + (-8 : Int32)) + (-4 : Int32)) + (-2 : Int32)))])) _
              refine XS.iloadN X0.here hx rfl (hb hby d42_74) rfl ?_
              show Steps p.tables e below (s₁.setTop (mkF m 75 #[.val (.int (own_u (own_u (own_u (own_u x (16 : Int32)) (8 : Int32)) (4 : Int32)) (2 : Int32))), .val (.int (((((31 : Int32) + (-16 : Int32)) + (-8 : Int32)) + (-4 : Int32)) + (-2 : Int32)))] [(.int (own_u (own_u (own_u (own_u x (16 : Int32)) (8 : Int32)) (4 : Int32)) (2 : Int32))), (.int (((((31 : Int32) + (-16 : Int32)) + (-8 : Int32)) + (-4 : Int32)) + (-2 : Int32)))])) _
              refine XS.iconst X0.here hx rfl (hb hby d42_75) ?_
              show Steps p.tables e below (s₁.setTop (mkF m 76 #[.val (.int (own_u (own_u (own_u (own_u x (16 : Int32)) (8 : Int32)) (4 : Int32)) (2 : Int32))), .val (.int (((((31 : Int32) + (-16 : Int32)) + (-8 : Int32)) + (-4 : Int32)) + (-2 : Int32)))] [(.int (1 : Int32)), (.int (own_u (own_u (own_u (own_u x (16 : Int32)) (8 : Int32)) (4 : Int32)) (2 : Int32))), (.int (((((31 : Int32) + (-16 : Int32)) + (-8 : Int32)) + (-4 : Int32)) + (-2 : Int32)))])) _
              refine XS.iushr X0.here hx rfl (hb hby d42_76) rfl ?_
              show Steps p.tables e below (s₁.setTop (mkF m 77 #[.val (.int (own_u (own_u (own_u (own_u x (16 : Int32)) (8 : Int32)) (4 : Int32)) (2 : Int32))), .val (.int (((((31 : Int32) + (-16 : Int32)) + (-8 : Int32)) + (-4 : Int32)) + (-2 : Int32)))] [(.int (own_u (own_u (own_u (own_u (own_u x (16 : Int32)) (8 : Int32)) (4 : Int32)) (2 : Int32)) (1 : Int32))), (.int (((((31 : Int32) + (-16 : Int32)) + (-8 : Int32)) + (-4 : Int32)) + (-2 : Int32)))])) _
              refine XS.isub X0.here hx rfl (hb hby d42_77) rfl ?_
              show Steps p.tables e below (s₁.setTop (mkF m 78 #[.val (.int (own_u (own_u (own_u (own_u x (16 : Int32)) (8 : Int32)) (4 : Int32)) (2 : Int32))), .val (.int (((((31 : Int32) + (-16 : Int32)) + (-8 : Int32)) + (-4 : Int32)) + (-2 : Int32)))] [(.int ((((((31 : Int32) + (-16 : Int32)) + (-8 : Int32)) + (-4 : Int32)) + (-2 : Int32)) - (own_u (own_u (own_u (own_u (own_u x (16 : Int32)) (8 : Int32)) (4 : Int32)) (2 : Int32)) (1 : Int32))))])) _
              exact retI X0 hx Bd.returns (hb hby d42_78) hr
    · rw [if_neg ht0] at hr
      show Steps p.tables e below (s₁.setTop (mkF m 1 #[.val (.int x), .unset] [(.int x)])) _
      refine XS.ifNo X0.here hx rfl (hb hby d42_1) rfl ((if0 _ _).trans (flt (ht0 : ¬ ((0 : Int32) < x))).2.2.1) ?_
      refine XS.iloadN X0.here hx rfl (hb hby d42_4) rfl ?_
      by_cases ht1 : x = (0 : Int32)
      · rw [if_pos ht1] at hr
        show Steps p.tables e below (s₁.setTop (mkF m 5 #[.val (.int x), .unset] [(.int x)])) _
        refine XS.ifNo X0.here hx rfl (hb hby d42_5) rfl ((if0 _ _).trans (teq (ht1 : x = (0 : Int32))).2) ?_
        show Steps p.tables e below (s₁.setTop (mkF m 8 #[.val (.int x), .unset] [])) _
        refine XS.bipush X0.here hx rfl (hb hby d42_8) ?_
        show Steps p.tables e below (s₁.setTop (mkF m 10 #[.val (.int x), .unset] [(.int (32 : Int32))])) _
        refine XS.goto X0.here hx rfl (pc0 := 10) (pc' := 14) rfl (hb hby d42_10) (by decide) (by decide) ?_
        show Steps p.tables e below (s₁.setTop (mkF m 14 #[.val (.int x), .unset] [(.int (32 : Int32))])) _
        exact retI X0 hx Bd.returns (hb hby d42_14) hr
      · rw [if_neg ht1] at hr
        show Steps p.tables e below (s₁.setTop (mkF m 5 #[.val (.int x), .unset] [(.int x)])) _
        refine XS.ifYes X0.here hx rfl (pc0 := 5) (pc' := 13) rfl (hb hby d42_5) rfl ((if0 _ _).trans (feq (ht1 : ¬ (x = (0 : Int32)))).2) (by decide) (by decide) ?_
        show Steps p.tables e below (s₁.setTop (mkF m 13 #[.val (.int x), .unset] [])) _
        refine XS.iconst X0.here hx rfl (hb hby d42_13) ?_
        show Steps p.tables e below (s₁.setTop (mkF m 14 #[.val (.int x), .unset] [(.int (0 : Int32))])) _
        exact retI X0 hx Bd.returns (hb hby d42_14) hr
  · show QrmNlz Z x  h0 n0 _ s₁.heap _
    rw [e0]
    exact ⟨rfl, N0, rfl⟩
def own_hi (x : Int64) : Int32 := (((x.toUInt64 >>> ((32 : Int32) &&& 0x3f).toInt64.toUInt64).toInt64).toInt32)
def own_nlzL (x : Int64) : Int32 := if own_hi x = (0 : Int32) then (32 : Int32) + own_nlz x.toInt32 else own_nlz (own_hi x)
theorem d41_0 : decode c_32 0 = .ok (.lload_n 0, 1) := by decide +kernel
theorem d41_1 : decode c_32 1 = .ok (.bipush 32, 2) := by decide +kernel
theorem d41_3 : decode c_32 3 = .ok (.lushr, 1) := by decide +kernel
theorem d41_4 : decode c_32 4 = .ok (.l2i, 1) := by decide +kernel
theorem d41_5 : decode c_32 5 = .ok (.istore_n 2, 1) := by decide +kernel
theorem d41_6 : decode c_32 6 = .ok (.iload_n 2, 1) := by decide +kernel
theorem d41_7 : decode c_32 7 = .ok (.ifCond .ne 14, 3) := by decide +kernel
theorem d41_10 : decode c_32 10 = .ok (.bipush 32, 2) := by decide +kernel
theorem d41_12 : decode c_32 12 = .ok (.lload_n 0, 1) := by decide +kernel
theorem d41_13 : decode c_32 13 = .ok (.l2i, 1) := by decide +kernel
theorem d41_14 : decode c_32 14 = .ok (.invokestatic 308, 3) := by decide +kernel
theorem pd_3 : parseMethodDescriptor "(I)I" = some ⟨[.int], some .int⟩ := by decide +kernel
theorem d41_17 : decode c_32 17 = .ok (.iadd, 1) := by decide +kernel
theorem d41_18 : decode c_32 18 = .ok (.goto 7, 3) := by decide +kernel
theorem d41_25 : decode c_32 25 = .ok (.ireturn, 1) := by decide +kernel
theorem d41_21 : decode c_32 21 = .ok (.iload_n 2, 1) := by decide +kernel
theorem d41_22 : decode c_32 22 = .ok (.invokestatic 308, 3) := by decide +kernel
theorem ef_rmNlzL (m : MethodId) (x0 : Int64) : entryFrame m #[(.long x0)] 3 = mkF m 0 #[.val (.long x0), .second, .unset] [] := by first | (simp [entryFrame, mkF, argsToLocals, Value.category]; done) | rfl
def QrmNlzL (Z : State) (x : Int64)  (h0 : Heap) (n0 : Nat) (v : Option Value) (h : Heap) (L : List Loc) : Prop := v = some (.int (own_nlzL x)) ∧ Fr n0 L ∧ h = h0
theorem rmNlzL (l : Launch) (Z : State) (a0 : Array Value) (hw : ∀ d ∈ tables_1, d.before a0 Z = true) (ws : List Jvm.Cond) (x : Int64)  (h0 : Heap) (n0 : Nat) (Z0 : n0 ≤ h0.size)  :
    MetFree l m_22 (head1 (Jvm.Cond.code m_22 jdk_35_method_48_code 3 (some .int) :: ws) ({ frames := 1, cells := 0, slots := 0, locals := 14 } : Room)) (fun a U => a = #[(.long x)] ∧ Z.Warmed39 U.vm ∧ U.heap = h0) (fun _ _ _ _ _ => True) (fun _ U o U' => ∃ v L, o = .returned v ∧ QrmNlzL Z x  h0 n0 v U'.heap L ∧ FrameEnd U o U' L ({ frames := 1, cells := 0, slots := 0, locals := 14 } : Room).cells ({ frames := 1, cells := 0, slots := 0, locals := 14 } : Room).slots) := by
  refine MetFree.of_bodySF (plainFor_of_name pn_java_lang_Long) hisR ?_
  intro p e s m args below meth c s₁ Bd hml0 hP hK
  obtain ⟨rfl, hZ, hh⟩ := hP
  have hx := Bd.exec
  have hby := Bd.bytes
  have hml : c.maxLocals = 3 := hml0
  have hown : s.vm.findClass "java/lang/Long" = some m.cls := findClass_of_methodNamed Bd.named
  have hnm := (name_of_methodNamed Bd.named Bd.method).1
  have X0 : Stand p l e ({ frames := 1, cells := 0, slots := 0, locals := 14 } : Room) s m #[(.long x)] below meth c s₁ [] 0 0 := Stand.of_body Bd
  have e0 : s₁.heap = h0 := by rw [← hh, Bd.state]; rfl
  have N0 := Fr.nil n0
  have pre0 : ∀ t, Steps p.tables e below (s₁.setTop (mkF m 0 #[.val (.long x), .second, .unset] [])) t → Steps p.tables e below (s₁.setTop (entryFrame m #[(.long x)] 3)) t := fun t k => castTop (ef_rmNlzL m x) k
  have pk1 : ∀ target, Steps p.tables e below (s₁.setTop (mkF m 7 #[.val (.long x), .second, .val (.int (own_hi x))] [(.int (own_hi x))])) target → Steps p.tables e below (s₁.setTop (mkF m 0 #[.val (.long x), .second, .unset] [])) target := by
    intro target kt
    show Steps p.tables e below (s₁.setTop (mkF m 0 #[.val (.long x), .second, .unset] [])) _
    refine XS.lloadN X0.here hx rfl (hb hby d41_0) rfl ?_
    refine XS.bipush X0.here hx rfl (hb hby d41_1) ?_
    refine XS.lushr X0.here hx rfl (hb hby d41_3) rfl ?_
    refine XS.l2i X0.here hx rfl (hb hby d41_4) rfl ?_
    refine XS.istoreN X0.here hx rfl (hb hby d41_5) rfl (l' := #[.val (.long x), .second, .val (.int (own_hi x))]) rfl ?_
    refine XS.iloadN X0.here hx rfl (hb hby d41_6) rfl ?_
    exact kt
  by_cases h1 : (own_hi x) = (0 : Int32)
  · obtain ⟨_, _, ⟨T2, L2, k2, n2⟩, -, X2, ⟨Lc2, hQ2, l2, y2, z2⟩, st2⟩ := Jvm.LawKit.callS X0 hx (y := m_21) hown (mvT hZ (own_w hw 217 rfl)) (mvT hZ (own_w hw 218 rfl)) (mvT hZ (own_w hw 2 rfl)) (mvT hZ (own_w hw 219 rfl)) (by decide) (backOf (W := 1) (rmNlz l Z a0 hw [] (x.toInt32)  h0 n0 Z0 ) hZ (own_w hw 219 rfl) (own_w hw 2 rfl) (by decide) (by decide)) (g := (mkF m 14 #[.val (.long x), .second, .val (.int (own_hi x))] [(.int (x.toInt32)), (.int (32 : Int32))])) rfl (by rw [hml]; rfl) (argsL := [(.int (x.toInt32))]) (rest := [(.int (32 : Int32))]) (lenOf pd_3 rfl) rfl (by show 2 * 0 + _ ≤ _; exact Nat.le_of_eq rfl) (hb hby d41_14) (fun _ _ => ⟨rfl, e0, (by decide : 0 + 0 ≤ _), (by decide : 0 + 0 ≤ _)⟩)
    dsimp only [Pt.U, Pt.locs, Pt.cells, Pt.slots] at X2 l2 y2 z2 st2 hQ2
    subst y2 z2
    obtain ⟨rfl, N2q, e2⟩ := hQ2
    have N2 : Fr n0 L2 := by rw [l2]; exact Fr.app N0 N2q
    obtain ⟨fs, hr, hrun, hended, hW, hsame⟩ := X2.leave (v := some (.int ((32 : Int32) + (own_nlz (x.toInt32))))) (fun h => by rw [Bd.returns] at h; cases h) Bd.notSynchronized
    refine ⟨_, _, pre0 _ ?_, hrun, hended, _, _, rfl, ?_, ⟨_, rfl⟩, hW, hsame.mono (by decide) (by decide)⟩
    · refine pk1 _ ?_
      show Steps p.tables e below (s₁.setTop (mkF m 7 #[.val (.long x), .second, .val (.int (own_hi x))] [(.int (own_hi x))])) _
      refine XS.ifNo X0.here hx rfl (hb hby d41_7) rfl ((if0 _ _).trans (teq (h1 : (own_hi x) = (0 : Int32))).2) ?_
      refine XS.bipush X0.here hx rfl (hb hby d41_10) ?_
      refine XS.lloadN X0.here hx rfl (hb hby d41_12) rfl ?_
      refine XS.l2i X0.here hx rfl (hb hby d41_13) rfl ?_
      refine st2 _ ?_
      refine XS.iadd X2.here hx rfl (hb hby d41_17) rfl ?_
      refine XS.goto X2.here hx rfl (pc0 := 18) (pc' := 25) rfl (hb hby d41_18) (by decide) (by decide) ?_
      show Steps p.tables e below (T2.setTop (mkF m 25 #[.val (.long x), .second, .val (.int (own_hi x))] [(.int ((32 : Int32) + (own_nlz (x.toInt32))))])) _
      exact retI X2 hx Bd.returns (hb hby d41_25) hr
    · show QrmNlzL Z x  h0 n0 _ T2.heap _
      rw [e2]
      exact ⟨by rw [own_nlzL, if_pos h1], N2, rfl⟩
  · obtain ⟨_, _, ⟨T2, L2, k2, n2⟩, -, X2, ⟨Lc2, hQ2, l2, y2, z2⟩, st2⟩ := Jvm.LawKit.callS X0 hx (y := m_21) hown (mvT hZ (own_w hw 217 rfl)) (mvT hZ (own_w hw 218 rfl)) (mvT hZ (own_w hw 2 rfl)) (mvT hZ (own_w hw 219 rfl)) (by decide) (backOf (W := 0) (rmNlz l Z a0 hw [] (own_hi x)  h0 n0 Z0 ) hZ (own_w hw 219 rfl) (own_w hw 2 rfl) (by decide) (by decide)) (g := (mkF m 22 #[.val (.long x), .second, .val (.int (own_hi x))] [(.int (own_hi x))])) rfl (by rw [hml]; rfl) (argsL := [(.int (own_hi x))]) (rest := []) (lenOf pd_3 rfl) rfl (by show 2 * 0 + _ ≤ _; exact Nat.le_of_eq rfl) (hb hby d41_22) (fun _ _ => ⟨rfl, e0, (by decide : 0 + 0 ≤ _), (by decide : 0 + 0 ≤ _)⟩)
    dsimp only [Pt.U, Pt.locs, Pt.cells, Pt.slots] at X2 l2 y2 z2 st2 hQ2
    subst y2 z2
    obtain ⟨rfl, N2q, e2⟩ := hQ2
    have N2 : Fr n0 L2 := by rw [l2]; exact Fr.app N0 N2q
    obtain ⟨fs, hr, hrun, hended, hW, hsame⟩ := X2.leave (v := some (.int (own_nlz (own_hi x)))) (fun h => by rw [Bd.returns] at h; cases h) Bd.notSynchronized
    refine ⟨_, _, pre0 _ ?_, hrun, hended, _, _, rfl, ?_, ⟨_, rfl⟩, hW, hsame.mono (by decide) (by decide)⟩
    · refine pk1 _ ?_
      show Steps p.tables e below (s₁.setTop (mkF m 7 #[.val (.long x), .second, .val (.int (own_hi x))] [(.int (own_hi x))])) _
      refine XS.ifYes X0.here hx rfl (pc0 := 7) (pc' := 21) rfl (hb hby d41_7) rfl ((if0 _ _).trans (feq (h1 : ¬ ((own_hi x) = (0 : Int32)))).2) (by decide) (by decide) ?_
      refine XS.iloadN X0.here hx rfl (hb hby d41_21) rfl ?_
      refine st2 _ ?_
      show Steps p.tables e below (T2.setTop (mkF m 25 #[.val (.long x), .second, .val (.int (own_hi x))] [(.int (own_nlz (own_hi x)))])) _
      exact retI X2 hx Bd.returns (hb hby d41_25) hr
    · show QrmNlzL Z x  h0 n0 _ T2.heap _
      rw [e2]
      exact ⟨by rw [own_nlzL, if_neg h1], N2, rfl⟩
theorem d22_0 : decode c_16 0 = .ok (.aload_n 0, 1) := by decide +kernel
theorem d22_1 : decode c_16 1 = .ok (.getfield 17, 3) := by decide +kernel
theorem d22_4 : decode c_16 4 = .ok (.ireturn, 1) := by decide +kernel
theorem ef_rmScale (m : MethodId) (x0 : Addr) : entryFrame m #[(.ref x0)] 1 = mkF m 0 #[.val (.ref x0)] [] := by first | (simp [entryFrame, mkF, argsToLocals, Value.category]; done) | rfl
def QrmScale (Z : State) (a1 : Addr) (sc : Int32) (ic : Int64) (h0 : Heap) (n0 : Nat) (v : Option Value) (h : Heap) (L : List Loc) : Prop := v = some (.int sc) ∧ Fr n0 L ∧ h = h0
theorem rmScale (l : Launch) (Z : State) (a0 : Array Value) (hw : ∀ d ∈ tables_1, d.before a0 Z = true) (ws : List Jvm.Cond) (a1 : Addr) (sc : Int32) (ic : Int64) (h0 : Heap) (n0 : Nat) (Z0 : n0 ≤ h0.size) (B : own_BD Z h0 a1 sc ic) :
    MetFree l m_23 (head1 (Jvm.Cond.code m_23 jdk_17_method_59_code 1 (some .int) :: ws) ({ frames := 0, cells := 0, slots := 0, locals := 0 } : Room)) (fun a U => a = #[(.ref a1)] ∧ Z.Warmed39 U.vm ∧ U.heap = h0) (fun _ _ _ _ _ => True) (fun _ U o U' => ∃ v L, o = .returned v ∧ QrmScale Z a1 sc ic h0 n0 v U'.heap L ∧ FrameEnd U o U' L ({ frames := 0, cells := 0, slots := 0, locals := 0 } : Room).cells ({ frames := 0, cells := 0, slots := 0, locals := 0 } : Room).slots) := by
  refine MetFree.of_bodySF (plainFor_of_name pn_java_math_BigDecimal) hisR ?_
  intro p e s m args below meth c s₁ Bd hml0 hP hK
  obtain ⟨rfl, hZ, hh⟩ := hP
  have hx := Bd.exec
  have hby := Bd.bytes
  have hml : c.maxLocals = 1 := hml0
  have hown : s.vm.findClass "java/math/BigDecimal" = some m.cls := findClass_of_methodNamed Bd.named
  have hnm := (name_of_methodNamed Bd.named Bd.method).1
  have X0 : Stand p l e ({ frames := 0, cells := 0, slots := 0, locals := 0 } : Room) s m #[(.ref a1)] below meth c s₁ [] 0 0 := Stand.of_body Bd
  have e0 : s₁.heap = h0 := by rw [← hh, Bd.state]; rfl
  have N0 := Fr.nil n0
  have pre0 : ∀ t, Steps p.tables e below (s₁.setTop (mkF m 0 #[.val (.ref a1)] [])) t → Steps p.tables e below (s₁.setTop (entryFrame m #[(.ref a1)] 1)) t := fun t k => castTop (ef_rmScale m a1) k
  obtain ⟨T1, X1, e1, st1⟩ := getF X0 hx hZ hown (host := "") (Or.inl (own_w hw 31 rfl)) Via.refl e0 B.2.1 (g := (mkF m 1 #[.val (.ref a1)] [(.ref a1)])) rfl rfl (hb hby d22_1)
  obtain ⟨fs, hr, hrun, hended, hW, hsame⟩ := X1.leave (v := some (.int sc)) (fun h => by rw [Bd.returns] at h; cases h) Bd.notSynchronized
  refine ⟨_, _, pre0 _ ?_, hrun, hended, _, _, rfl, ?_, ⟨_, rfl⟩, hW, hsame.mono (by decide) (by decide)⟩
  · show Steps p.tables e below (s₁.setTop (mkF m 0 #[.val (.ref a1)] [])) _
    refine XS.aloadN X0.here hx rfl (hb hby d22_0) rfl rfl ?_
    refine st1 _ ?_
    show Steps p.tables e below (T1.setTop (mkF m 4 #[.val (.ref a1)] [(.int sc)])) _
    exact retI X1 hx Bd.returns (hb hby d22_4) hr
  · show QrmScale Z a1 sc ic h0 n0 _ T1.heap _
    rw [e1]
    exact ⟨rfl, N0, rfl⟩
theorem d23_0 : decode c_29 0 = .ok (.aload_n 0, 1) := by decide +kernel
theorem d23_1 : decode c_29 1 = .ok (.getfield 205, 3) := by decide +kernel
theorem d23_4 : decode c_29 4 = .ok (.ireturn, 1) := by decide +kernel
theorem ef_rmIv (m : MethodId) (x0 : Addr) : entryFrame m #[(.ref x0)] 1 = mkF m 0 #[.val (.ref x0)] [] := by first | (simp [entryFrame, mkF, argsToLocals, Value.category]; done) | rfl
def QrmIv (Z : State) (a1 : Addr) (y : Int32) (h0 : Heap) (n0 : Nat) (v : Option Value) (h : Heap) (L : List Loc) : Prop := v = some (.int y) ∧ Fr n0 L ∧ h = h0
theorem rmIv (l : Launch) (Z : State) (a0 : Array Value) (hw : ∀ d ∈ tables_1, d.before a0 Z = true) (ws : List Jvm.Cond) (a1 : Addr) (y : Int32) (h0 : Heap) (n0 : Nat) (Z0 : n0 ≤ h0.size) (F : Fld Z h0 a1 "java/lang/Integer" "value" "I" (.int y)) :
    MetFree l m_4 (head1 (Jvm.Cond.code m_4 jdk_33_method_27_code 1 (some .int) :: ws) ({ frames := 0, cells := 0, slots := 0, locals := 0 } : Room)) (fun a U => a = #[(.ref a1)] ∧ Z.Warmed39 U.vm ∧ U.heap = h0) (fun _ _ _ _ _ => True) (fun _ U o U' => ∃ v L, o = .returned v ∧ QrmIv Z a1 y h0 n0 v U'.heap L ∧ FrameEnd U o U' L ({ frames := 0, cells := 0, slots := 0, locals := 0 } : Room).cells ({ frames := 0, cells := 0, slots := 0, locals := 0 } : Room).slots) := by
  refine MetFree.of_bodySF (plainFor_of_name pn_java_lang_Integer) hisR ?_
  intro p e s m args below meth c s₁ Bd hml0 hP hK
  obtain ⟨rfl, hZ, hh⟩ := hP
  have hx := Bd.exec
  have hby := Bd.bytes
  have hml : c.maxLocals = 1 := hml0
  have hown : s.vm.findClass "java/lang/Integer" = some m.cls := findClass_of_methodNamed Bd.named
  have hnm := (name_of_methodNamed Bd.named Bd.method).1
  have X0 : Stand p l e ({ frames := 0, cells := 0, slots := 0, locals := 0 } : Room) s m #[(.ref a1)] below meth c s₁ [] 0 0 := Stand.of_body Bd
  have e0 : s₁.heap = h0 := by rw [← hh, Bd.state]; rfl
  have N0 := Fr.nil n0
  have pre0 : ∀ t, Steps p.tables e below (s₁.setTop (mkF m 0 #[.val (.ref a1)] [])) t → Steps p.tables e below (s₁.setTop (entryFrame m #[(.ref a1)] 1)) t := fun t k => castTop (ef_rmIv m a1) k
  obtain ⟨T1, X1, e1, st1⟩ := getF X0 hx hZ hown (host := "") (Or.inl (own_w hw 126 rfl)) Via.refl e0 F (g := (mkF m 1 #[.val (.ref a1)] [(.ref a1)])) rfl rfl (hb hby d23_1)
  obtain ⟨fs, hr, hrun, hended, hW, hsame⟩ := X1.leave (v := some (.int y)) (fun h => by rw [Bd.returns] at h; cases h) Bd.notSynchronized
  refine ⟨_, _, pre0 _ ?_, hrun, hended, _, _, rfl, ?_, ⟨_, rfl⟩, hW, hsame.mono (by decide) (by decide)⟩
  · show Steps p.tables e below (s₁.setTop (mkF m 0 #[.val (.ref a1)] [])) _
    refine XS.aloadN X0.here hx rfl (hb hby d23_0) rfl rfl ?_
    refine st1 _ ?_
    show Steps p.tables e below (T1.setTop (mkF m 4 #[.val (.ref a1)] [(.int y)])) _
    exact retI X1 hx Bd.returns (hb hby d23_4) hr
  · show QrmIv Z a1 y h0 n0 _ T1.heap _
    rw [e1]
    exact ⟨rfl, N0, rfl⟩
theorem d29_0 : decode c_15 0 = .ok (.aload_n 0, 1) := by decide +kernel
theorem d29_1 : decode c_15 1 = .ok (.getfield 24, 3) := by decide +kernel
theorem d29_4 : decode c_15 4 = .ok (.ldc2_w 125, 3) := by decide +kernel
theorem d29_7 : decode c_15 7 = .ok (.lcmp, 1) := by decide +kernel
theorem d29_8 : decode c_15 8 = .ok (.ifCond .eq 13, 3) := by decide +kernel
theorem d29_11 : decode c_15 11 = .ok (.aload_n 0, 1) := by decide +kernel
theorem d29_12 : decode c_15 12 = .ok (.getfield 24, 3) := by decide +kernel
theorem d29_15 : decode c_15 15 = .ok (.invokestatic 596, 3) := by decide +kernel
theorem pd_4 : parseMethodDescriptor "(J)I" = some ⟨[.long], some .int⟩ := by decide +kernel
theorem d29_18 : decode c_15 18 = .ok (.goto 10, 3) := by decide +kernel
theorem d29_28 : decode c_15 28 = .ok (.ireturn, 1) := by decide +kernel
theorem ef_rmSig (m : MethodId) (x0 : Addr) : entryFrame m #[(.ref x0)] 1 = mkF m 0 #[.val (.ref x0)] [] := by first | (simp [entryFrame, mkF, argsToLocals, Value.category]; done) | rfl
def QrmSig (Z : State) (a1 : Addr) (sc : Int32) (ic : Int64) (h0 : Heap) (n0 : Nat) (v : Option Value) (h : Heap) (L : List Loc) : Prop := v = some (.int (own_sg ic)) ∧ Fr n0 L ∧ h = h0
theorem rmSig (l : Launch) (Z : State) (a0 : Array Value) (hw : ∀ d ∈ tables_1, d.before a0 Z = true) (ws : List Jvm.Cond) (a1 : Addr) (sc : Int32) (ic : Int64) (h0 : Heap) (n0 : Nat) (Z0 : n0 ≤ h0.size) (B : own_BD Z h0 a1 sc ic) (hm : ¬ (lcmpW ic (-9223372036854775808 : Int64) = (0 : Int32))) :
    MetFree l m_5 (head1 (Jvm.Cond.code m_5 jdk_17_method_58_code 1 (some .int) :: ws) ({ frames := 1, cells := 0, slots := 0, locals := 13 } : Room)) (fun a U => a = #[(.ref a1)] ∧ Z.Warmed39 U.vm ∧ U.heap = h0) (fun _ _ _ _ _ => True) (fun _ U o U' => ∃ v L, o = .returned v ∧ QrmSig Z a1 sc ic h0 n0 v U'.heap L ∧ FrameEnd U o U' L ({ frames := 1, cells := 0, slots := 0, locals := 13 } : Room).cells ({ frames := 1, cells := 0, slots := 0, locals := 13 } : Room).slots) := by
  refine MetFree.of_bodySF (plainFor_of_name pn_java_math_BigDecimal) hisR ?_
  intro p e s m args below meth c s₁ Bd hml0 hP hK
  obtain ⟨rfl, hZ, hh⟩ := hP
  have hx := Bd.exec
  have hby := Bd.bytes
  have hml : c.maxLocals = 1 := hml0
  have hown : s.vm.findClass "java/math/BigDecimal" = some m.cls := findClass_of_methodNamed Bd.named
  have hnm := (name_of_methodNamed Bd.named Bd.method).1
  have X0 : Stand p l e ({ frames := 1, cells := 0, slots := 0, locals := 13 } : Room) s m #[(.ref a1)] below meth c s₁ [] 0 0 := Stand.of_body Bd
  have e0 : s₁.heap = h0 := by rw [← hh, Bd.state]; rfl
  have N0 := Fr.nil n0
  have pre0 : ∀ t, Steps p.tables e below (s₁.setTop (mkF m 0 #[.val (.ref a1)] [])) t → Steps p.tables e below (s₁.setTop (entryFrame m #[(.ref a1)] 1)) t := fun t k => castTop (ef_rmSig m a1) k
  obtain ⟨T1, X1, e1, st1⟩ := getF X0 hx hZ hown (host := "") (Or.inl (own_w hw 35 rfl)) Via.refl e0 B.2.2 (g := (mkF m 1 #[.val (.ref a1)] [(.ref a1)])) rfl rfl (hb hby d29_1)
  obtain ⟨T2, X2, e2, st2⟩ := getF X1 hx hZ hown (host := "") (Or.inl (own_w hw 35 rfl)) Via.refl e1 B.2.2 (g := (mkF m 12 #[.val (.ref a1)] [(.ref a1)])) rfl rfl (hb hby d29_12)
  obtain ⟨_, _, ⟨T3, L3, k3, n3⟩, -, X3, ⟨Lc3, hQ3, l3, y3, z3⟩, st3⟩ := Jvm.LawKit.callS X2 hx (y := m_32) hown (mvT hZ (own_w hw 167 rfl)) (mvT hZ (own_w hw 168 rfl)) (mvT hZ (own_w hw 169 rfl)) (mvT hZ (own_w hw 170 rfl)) (by decide) (backOf (W := 0) (rmSg l Z a0 hw [] ic  h0 n0 Z0 ) hZ (own_w hw 170 rfl) (own_w hw 169 rfl) (by decide) (by decide)) (g := (mkF m 15 #[.val (.ref a1)] [(.long ic)])) rfl (by rw [hml]; rfl) (argsL := [(.long ic)]) (rest := []) (lenOf pd_4 rfl) rfl (by show 2 * 0 + _ ≤ _; exact Nat.le_of_eq rfl) (hb hby d29_15) (fun _ _ => ⟨rfl, e2, (by decide : 0 + 0 ≤ _), (by decide : 0 + 0 ≤ _)⟩)
  dsimp only [Pt.U, Pt.locs, Pt.cells, Pt.slots] at X3 l3 y3 z3 st3 hQ3
  subst y3 z3
  obtain ⟨rfl, N3q, e3⟩ := hQ3
  have N3 : Fr n0 L3 := by rw [l3]; exact Fr.app N0 N3q
  obtain ⟨fs, hr, hrun, hended, hW, hsame⟩ := X3.leave (v := some (.int (own_sg ic))) (fun h => by rw [Bd.returns] at h; cases h) Bd.notSynchronized
  refine ⟨_, _, pre0 _ ?_, hrun, hended, _, _, rfl, ?_, ⟨_, rfl⟩, hW, hsame.mono (by decide) (by decide)⟩
  · show Steps p.tables e below (s₁.setTop (mkF m 0 #[.val (.ref a1)] [])) _
    refine XS.aloadN X0.here hx rfl (hb hby d29_0) rfl rfl ?_
    refine st1 _ ?_
    refine X1.ldc2Long hx hown (mvT hZ (own_w hw 17 rfl)) (g := (mkF m 4 #[.val (.ref a1)] [(.long ic)])) rfl (hb hby d29_4) _ ?_
    refine XS.lcmp X1.here hx rfl (hb hby d29_7) rfl ?_
    refine XS.ifNo X1.here hx rfl (hb hby d29_8) rfl ((if0 _ _).trans (feq (hm : ¬ ((lcmpW ic (-9223372036854775808 : Int64)) = (0 : Int32)))).1) ?_
    refine XS.aloadN X1.here hx rfl (hb hby d29_11) rfl rfl ?_
    refine st2 _ ?_
    refine st3 _ ?_
    refine XS.goto X3.here hx rfl (pc0 := 18) (pc' := 28) rfl (hb hby d29_18) (by decide) (by decide) ?_
    show Steps p.tables e below (T3.setTop (mkF m 28 #[.val (.ref a1)] [(.int (own_sg ic))])) _
    exact retI X3 hx Bd.returns (hb hby d29_28) hr
  · show QrmSig Z a1 sc ic h0 n0 _ T3.heap _
    rw [e3]
    exact ⟨rfl, N3, rfl⟩
theorem d8_0 : decode c_27 0 = .ok (.aload_n 0, 1) := by decide +kernel
theorem d8_1 : decode c_27 1 = .ok (.ifnonnull 11, 3) := by decide +kernel
theorem d8_12 : decode c_27 12 = .ok (.aload_n 0, 1) := by decide +kernel
theorem d8_13 : decode c_27 13 = .ok (.areturn, 1) := by decide +kernel
theorem pn_java_util_Objects : plainName "java/util/Objects" = true := by first | (simp [plainName, overriddenIn]; done) | decide +kernel
theorem ef_rmNn (m : MethodId) (x0 : Addr) : entryFrame m #[(.ref x0)] 1 = mkF m 0 #[.val (.ref x0)] [] := by first | (simp [entryFrame, mkF, argsToLocals, Value.category]; done) | rfl
def QrmNn (Z : State) (a1 : Addr)  (h0 : Heap) (n0 : Nat) (v : Option Value) (h : Heap) (L : List Loc) : Prop := v = some (.ref a1) ∧ Fr n0 L ∧ h = h0
theorem rmNn (l : Launch) (Z : State) (a0 : Array Value) (hw : ∀ d ∈ tables_1, d.before a0 Z = true) (ws : List Jvm.Cond) (a1 : Addr)  (h0 : Heap) (n0 : Nat) (Z0 : n0 ≤ h0.size)  :
    MetFree l m_24 (head1 (Jvm.Cond.code m_24 jdk_31_method_10_code 1 (some (.object "java/lang/Object")) :: ws) ({ frames := 0, cells := 0, slots := 0, locals := 0 } : Room)) (fun a U => a = #[(.ref a1)] ∧ Z.Warmed39 U.vm ∧ U.heap = h0) (fun _ _ _ _ _ => True) (fun _ U o U' => ∃ v L, o = .returned v ∧ QrmNn Z a1  h0 n0 v U'.heap L ∧ FrameEnd U o U' L ({ frames := 0, cells := 0, slots := 0, locals := 0 } : Room).cells ({ frames := 0, cells := 0, slots := 0, locals := 0 } : Room).slots) := by
  refine MetFree.of_bodySF (plainFor_of_name pn_java_util_Objects) hisR ?_
  intro p e s m args below meth c s₁ Bd hml0 hP hK
  obtain ⟨rfl, hZ, hh⟩ := hP
  have hx := Bd.exec
  have hby := Bd.bytes
  have hml : c.maxLocals = 1 := hml0
  have hown : s.vm.findClass "java/util/Objects" = some m.cls := findClass_of_methodNamed Bd.named
  have hnm := (name_of_methodNamed Bd.named Bd.method).1
  have X0 : Stand p l e ({ frames := 0, cells := 0, slots := 0, locals := 0 } : Room) s m #[(.ref a1)] below meth c s₁ [] 0 0 := Stand.of_body Bd
  have e0 : s₁.heap = h0 := by rw [← hh, Bd.state]; rfl
  have N0 := Fr.nil n0
  have pre0 : ∀ t, Steps p.tables e below (s₁.setTop (mkF m 0 #[.val (.ref a1)] [])) t → Steps p.tables e below (s₁.setTop (entryFrame m #[(.ref a1)] 1)) t := fun t k => castTop (ef_rmNn m a1) k
  obtain ⟨fs, hr, hrun, hended, hW, hsame⟩ := X0.leave (v := some (.ref a1)) (fun h => by rw [Bd.returns] at h; cases h) Bd.notSynchronized
  refine ⟨_, _, pre0 _ ?_, hrun, hended, _, _, rfl, ?_, ⟨_, rfl⟩, hW, hsame.mono (by decide) (by decide)⟩
  · show Steps p.tables e below (s₁.setTop (mkF m 0 #[.val (.ref a1)] [])) _
    refine XS.aloadN X0.here hx rfl (hb hby d8_0) rfl rfl ?_
    refine XS.ifnonnullYes X0.here hx rfl (pc0 := 1) (pc' := 12) rfl (hb hby d8_1) rfl (by decide) (by decide) ?_
    refine XS.aloadN X0.here hx rfl (hb hby d8_12) rfl rfl ?_
    show Steps p.tables e below (s₁.setTop (mkF m 13 #[.val (.ref a1)] [(.ref a1)])) _
    jvm_step X0.here [X0.here.top, hx, (hb hby d8_13), X0.method', Bd.returns, Value.isRef, FieldType.isReference]
    first | (intro acts; rw [hr _ acts rfl rfl rfl]) | rw [hr _ _ rfl rfl rfl]
    exact Steps.refl _
  · show QrmNn Z a1  h0 n0 _ s₁.heap _
    rw [e0]
    exact ⟨rfl, N0, rfl⟩
theorem d11_0 : decode c_22 0 = .ok (.aload_n 1, 1) := by decide +kernel
theorem d11_1 : decode c_22 1 = .ok (.instanceof 3, 3) := by decide +kernel
theorem d11_4 : decode c_22 4 = .ok (.ifCond .eq 11, 3) := by decide +kernel
theorem d11_7 : decode c_22 7 = .ok (.aload_n 1, 1) := by decide +kernel
theorem d11_8 : decode c_22 8 = .ok (.checkcast 3, 3) := by decide +kernel
theorem d11_11 : decode c_22 11 = .ok (.astore_n 2, 1) := by decide +kernel
theorem d11_12 : decode c_22 12 = .ok (.goto 5, 3) := by decide +kernel
theorem d11_17 : decode c_22 17 = .ok (.aload_n 1, 1) := by decide +kernel
theorem d11_18 : decode c_22 18 = .ok (.aload_n 0, 1) := by decide +kernel
theorem d11_19 : decode c_22 19 = .ok (.if_acmp .ne 5, 3) := by decide +kernel
theorem d11_22 : decode c_22 22 = .ok (.iconst 1, 1) := by decide +kernel
theorem d11_23 : decode c_22 23 = .ok (.ireturn, 1) := by decide +kernel
theorem d11_24 : decode c_22 24 = .ok (.aload_n 0, 1) := by decide +kernel
theorem d11_25 : decode c_22 25 = .ok (.getfield 17, 3) := by decide +kernel
theorem d11_28 : decode c_22 28 = .ok (.aload_n 2, 1) := by decide +kernel
theorem d11_29 : decode c_22 29 = .ok (.getfield 17, 3) := by decide +kernel
theorem d11_32 : decode c_22 32 = .ok (.if_icmp .eq 5, 3) := by decide +kernel
theorem d11_37 : decode c_22 37 = .ok (.aload_n 0, 1) := by decide +kernel
theorem d11_38 : decode c_22 38 = .ok (.getfield 24, 3) := by decide +kernel
theorem d11_41 : decode c_22 41 = .ok (.lstore_n 3, 1) := by decide +kernel
theorem d11_42 : decode c_22 42 = .ok (.aload_n 2, 1) := by decide +kernel
theorem d11_43 : decode c_22 43 = .ok (.getfield 24, 3) := by decide +kernel
theorem d11_46 : decode c_22 46 = .ok (.lstore 5, 2) := by decide +kernel
theorem d11_48 : decode c_22 48 = .ok (.lload_n 3, 1) := by decide +kernel
theorem d11_49 : decode c_22 49 = .ok (.ldc2_w 125, 3) := by decide +kernel
theorem d11_52 : decode c_22 52 = .ok (.lcmp, 1) := by decide +kernel
theorem d11_53 : decode c_22 53 = .ok (.ifCond .eq 34, 3) := by decide +kernel
theorem d11_56 : decode c_22 56 = .ok (.lload 5, 2) := by decide +kernel
theorem d11_58 : decode c_22 58 = .ok (.ldc2_w 125, 3) := by decide +kernel
theorem d11_61 : decode c_22 61 = .ok (.lcmp, 1) := by decide +kernel
theorem d11_62 : decode c_22 62 = .ok (.ifCond .ne 12, 3) := by decide +kernel
theorem d11_74 : decode c_22 74 = .ok (.lload 5, 2) := by decide +kernel
theorem d11_76 : decode c_22 76 = .ok (.lload_n 3, 1) := by decide +kernel
theorem d11_77 : decode c_22 77 = .ok (.lcmp, 1) := by decide +kernel
theorem d11_78 : decode c_22 78 = .ok (.ifCond .ne 7, 3) := by decide +kernel
theorem d11_81 : decode c_22 81 = .ok (.iconst 1, 1) := by decide +kernel
theorem d11_82 : decode c_22 82 = .ok (.goto 4, 3) := by decide +kernel
theorem d11_86 : decode c_22 86 = .ok (.ireturn, 1) := by decide +kernel
theorem ef_rmEq (m : MethodId) (x0 : Addr) (x1 : Addr) : entryFrame m #[(.ref x0), (.ref x1)] 7 = mkF m 0 #[.val (.ref x0), .val (.ref x1), .unset, .unset, .unset, .unset, .unset] [] := by first | (simp [entryFrame, mkF, argsToLocals, Value.category]; done) | rfl
def QrmEq (Z : State) (a1 : Addr) (a2 : Addr) (sc : Int32) (ic : Int64) (h0 : Heap) (n0 : Nat) (v : Option Value) (h : Heap) (L : List Loc) : Prop := v = some (.int (1 : Int32)) ∧ Fr n0 L ∧ h = h0
theorem rmEq (l : Launch) (Z : State) (a0 : Array Value) (hw : ∀ d ∈ tables_1, d.before a0 Z = true) (ws : List Jvm.Cond) (a1 : Addr) (a2 : Addr) (sc : Int32) (ic : Int64) (h0 : Heap) (n0 : Nat) (Z0 : n0 ≤ h0.size) (B1 : own_BD Z h0 a1 sc ic) (B2 : own_BD Z h0 a2 sc ic) (hm : ¬ (lcmpW ic (-9223372036854775808 : Int64) = (0 : Int32))) :
    MetFree l m_1 (head1 (Jvm.Cond.code m_1 jdk_17_method_72_code 7 (some .boolean) :: ws) ({ frames := 0, cells := 0, slots := 0, locals := 0 } : Room)) (fun a U => a = #[(.ref a1), (.ref a2)] ∧ Z.Warmed39 U.vm ∧ U.heap = h0) (fun _ _ _ _ _ => True) (fun _ U o U' => ∃ v L, o = .returned v ∧ QrmEq Z a1 a2 sc ic h0 n0 v U'.heap L ∧ FrameEnd U o U' L ({ frames := 0, cells := 0, slots := 0, locals := 0 } : Room).cells ({ frames := 0, cells := 0, slots := 0, locals := 0 } : Room).slots) := by
  refine MetFree.of_bodySF (plainFor_of_name pn_java_math_BigDecimal) hisR ?_
  intro p e s m args below meth c s₁ Bd hml0 hP hK
  obtain ⟨rfl, hZ, hh⟩ := hP
  have hx := Bd.exec
  have hby := Bd.bytes
  have hml : c.maxLocals = 7 := hml0
  have hown : s.vm.findClass "java/math/BigDecimal" = some m.cls := findClass_of_methodNamed Bd.named
  have hnm := (name_of_methodNamed Bd.named Bd.method).1
  have X0 : Stand p l e ({ frames := 0, cells := 0, slots := 0, locals := 0 } : Room) s m #[(.ref a1), (.ref a2)] below meth c s₁ [] 0 0 := Stand.of_body Bd
  have e0 : s₁.heap = h0 := by rw [← hh, Bd.state]; rfl
  have N0 := Fr.nil n0
  have pre0 : ∀ t, Steps p.tables e below (s₁.setTop (mkF m 0 #[.val (.ref a1), .val (.ref a2), .unset, .unset, .unset, .unset, .unset] [])) t → Steps p.tables e below (s₁.setTop (entryFrame m #[(.ref a1), (.ref a2)] 7)) t := fun t k => castTop (ef_rmEq m a1 a2) k
  obtain ⟨T1, X1, e1, st1⟩ := instY X0 hx hZ hown (own_w hw 15 rfl) e0 (Ins.self B2.1) (g := (mkF m 1 #[.val (.ref a1), .val (.ref a2), .unset, .unset, .unset, .unset, .unset] [(.ref a2)])) rfl rfl (hb hby d11_1)
  obtain ⟨T2, X2, e2, st2⟩ := castY X1 hx hZ hown (own_w hw 15 rfl) e1 (Ins.self B2.1) (g := (mkF m 8 #[.val (.ref a1), .val (.ref a2), .unset, .unset, .unset, .unset, .unset] [(.ref a2)])) rfl rfl (hb hby d11_8)
  by_cases hq : a2 = a1
  · obtain ⟨fs, hr, hrun, hended, hW, hsame⟩ := X2.leave (v := some (.int (1 : Int32))) (fun h => by rw [Bd.returns] at h; cases h) Bd.notSynchronized
    refine ⟨_, _, pre0 _ ?_, hrun, hended, _, _, rfl, ?_, ⟨_, rfl⟩, hW, hsame.mono (by decide) (by decide)⟩
    · show Steps p.tables e below (s₁.setTop (mkF m 0 #[.val (.ref a1), .val (.ref a2), .unset, .unset, .unset, .unset, .unset] [])) _
      refine XS.aloadN X0.here hx rfl (hb hby d11_0) rfl rfl ?_
      refine st1 _ ?_
      refine XS.ifNo X1.here hx rfl (hb hby d11_4) rfl ((if0 _ _).trans (feq (by decide : ¬ ((1 : Int32) = (0 : Int32)))).1) ?_
      refine XS.aloadN X1.here hx rfl (hb hby d11_7) rfl rfl ?_
      refine st2 _ ?_
      refine XS.astoreN X2.here hx rfl (hb hby d11_11) rfl rfl (l' := #[.val (.ref a1), .val (.ref a2), .val (.ref a2), .unset, .unset, .unset, .unset]) rfl ?_
      refine XS.goto X2.here hx rfl (pc0 := 12) (pc' := 17) rfl (hb hby d11_12) (by decide) (by decide) ?_
      refine XS.aloadN X2.here hx rfl (hb hby d11_17) rfl rfl ?_
      refine XS.aloadN X2.here hx rfl (hb hby d11_18) rfl rfl ?_
      show Steps p.tables e below (T2.setTop (mkF m 19 #[.val (.ref a1), .val (.ref a2), .val (.ref a2), .unset, .unset, .unset, .unset] [(.ref a1), (.ref a2)])) _
      refine acmp X2 hx rfl (x := (.ref a2)) (y := (.ref a1)) rfl rfl (pc0 := 19) (pc' := 22) (same := true) rfl (hb hby d11_19) rfl (decide_eq_true (by rw [hq])) (by decide) (by decide) ?_
      refine XS.iconst X2.here hx rfl (hb hby d11_22) ?_
      show Steps p.tables e below (T2.setTop (mkF m 23 #[.val (.ref a1), .val (.ref a2), .val (.ref a2), .unset, .unset, .unset, .unset] [(.int (1 : Int32))])) _
      exact retN X2 hx (t := .boolean) Bd.returns (by simp) (hb hby d11_23) hr
    · show QrmEq Z a1 a2 sc ic h0 n0 _ T2.heap _
      rw [e2]
      exact ⟨rfl, N0, rfl⟩
  · obtain ⟨T3, X3, e3, st3⟩ := getF X2 hx hZ hown (host := "") (Or.inl (own_w hw 31 rfl)) Via.refl e2 B1.2.1 (g := (mkF m 25 #[.val (.ref a1), .val (.ref a2), .val (.ref a2), .unset, .unset, .unset, .unset] [(.ref a1)])) rfl rfl (hb hby d11_25)
    obtain ⟨T4, X4, e4, st4⟩ := getF X3 hx hZ hown (host := "") (Or.inl (own_w hw 31 rfl)) Via.refl e3 B2.2.1 (g := (mkF m 29 #[.val (.ref a1), .val (.ref a2), .val (.ref a2), .unset, .unset, .unset, .unset] [(.ref a2), (.int sc)])) rfl rfl (hb hby d11_29)
    obtain ⟨T5, X5, e5, st5⟩ := getF X4 hx hZ hown (host := "") (Or.inl (own_w hw 35 rfl)) Via.refl e4 B1.2.2 (g := (mkF m 38 #[.val (.ref a1), .val (.ref a2), .val (.ref a2), .unset, .unset, .unset, .unset] [(.ref a1)])) rfl rfl (hb hby d11_38)
    obtain ⟨T6, X6, e6, st6⟩ := getF X5 hx hZ hown (host := "") (Or.inl (own_w hw 35 rfl)) Via.refl e5 B2.2.2 (g := (mkF m 43 #[.val (.ref a1), .val (.ref a2), .val (.ref a2), .val (.long ic), .second, .unset, .unset] [(.ref a2)])) rfl rfl (hb hby d11_43)
    obtain ⟨fs, hr, hrun, hended, hW, hsame⟩ := X6.leave (v := some (.int (1 : Int32))) (fun h => by rw [Bd.returns] at h; cases h) Bd.notSynchronized
    refine ⟨_, _, pre0 _ ?_, hrun, hended, _, _, rfl, ?_, ⟨_, rfl⟩, hW, hsame.mono (by decide) (by decide)⟩
    · show Steps p.tables e below (s₁.setTop (mkF m 0 #[.val (.ref a1), .val (.ref a2), .unset, .unset, .unset, .unset, .unset] [])) _
      refine XS.aloadN X0.here hx rfl (hb hby d11_0) rfl rfl ?_
      refine st1 _ ?_
      refine XS.ifNo X1.here hx rfl (hb hby d11_4) rfl ((if0 _ _).trans (feq (by decide : ¬ ((1 : Int32) = (0 : Int32)))).1) ?_
      refine XS.aloadN X1.here hx rfl (hb hby d11_7) rfl rfl ?_
      refine st2 _ ?_
      refine XS.astoreN X2.here hx rfl (hb hby d11_11) rfl rfl (l' := #[.val (.ref a1), .val (.ref a2), .val (.ref a2), .unset, .unset, .unset, .unset]) rfl ?_
      refine XS.goto X2.here hx rfl (pc0 := 12) (pc' := 17) rfl (hb hby d11_12) (by decide) (by decide) ?_
      refine XS.aloadN X2.here hx rfl (hb hby d11_17) rfl rfl ?_
      refine XS.aloadN X2.here hx rfl (hb hby d11_18) rfl rfl ?_
      show Steps p.tables e below (T2.setTop (mkF m 19 #[.val (.ref a1), .val (.ref a2), .val (.ref a2), .unset, .unset, .unset, .unset] [(.ref a1), (.ref a2)])) _
      refine acmp X2 hx rfl (x := (.ref a2)) (y := (.ref a1)) rfl rfl (pc0 := 19) (pc' := 24) (same := false) rfl (hb hby d11_19) rfl (decide_eq_false (fun z => hq (Value.ref.inj z))) (by decide) (by decide) ?_
      refine XS.aloadN X2.here hx rfl (hb hby d11_24) rfl rfl ?_
      refine st3 _ ?_
      refine XS.aloadN X3.here hx rfl (hb hby d11_28) rfl rfl ?_
      refine st4 _ ?_
      refine XS.icmpYes X4.here hx rfl (pc0 := 32) (pc' := 37) rfl (hb hby d11_32) rfl (teq (rfl : sc = sc)).1 (by decide) (by decide) ?_
      refine XS.aloadN X4.here hx rfl (hb hby d11_37) rfl rfl ?_
      refine st5 _ ?_
      refine XS.lstoreN X5.here hx rfl (hb hby d11_41) rfl (l' := #[.val (.ref a1), .val (.ref a2), .val (.ref a2), .val (.long ic), .second, .unset, .unset]) rfl ?_
      refine XS.aloadN X5.here hx rfl (hb hby d11_42) rfl rfl ?_
      refine st6 _ ?_
      refine XS.lstore X6.here hx rfl (hb hby d11_46) rfl (l' := #[.val (.ref a1), .val (.ref a2), .val (.ref a2), .val (.long ic), .second, .val (.long ic), .second]) rfl ?_
      refine XS.lloadN X6.here hx rfl (hb hby d11_48) rfl ?_
      refine X6.ldc2Long hx hown (mvT hZ (own_w hw 17 rfl)) (g := (mkF m 49 #[.val (.ref a1), .val (.ref a2), .val (.ref a2), .val (.long ic), .second, .val (.long ic), .second] [(.long ic)])) rfl (hb hby d11_49) _ ?_
      refine XS.lcmp X6.here hx rfl (hb hby d11_52) rfl ?_
      refine XS.ifNo X6.here hx rfl (hb hby d11_53) rfl ((if0 _ _).trans (feq (hm : ¬ ((lcmpW ic (-9223372036854775808 : Int64)) = (0 : Int32)))).1) ?_
      refine XS.lload X6.here hx rfl (hb hby d11_56) rfl ?_
      refine X6.ldc2Long hx hown (mvT hZ (own_w hw 17 rfl)) (g := (mkF m 58 #[.val (.ref a1), .val (.ref a2), .val (.ref a2), .val (.long ic), .second, .val (.long ic), .second] [(.long ic)])) rfl (hb hby d11_58) _ ?_
      refine XS.lcmp X6.here hx rfl (hb hby d11_61) rfl ?_
      refine XS.ifYes X6.here hx rfl (pc0 := 62) (pc' := 74) rfl (hb hby d11_62) rfl ((if0 _ _).trans (feq (hm : ¬ ((lcmpW ic (-9223372036854775808 : Int64)) = (0 : Int32)))).2) (by decide) (by decide) ?_
      refine XS.lload X6.here hx rfl (hb hby d11_74) rfl ?_
      refine XS.lloadN X6.here hx rfl (hb hby d11_76) rfl ?_
      refine XS.lcmp X6.here hx rfl (hb hby d11_77) rfl ?_
      refine XS.ifNo X6.here hx rfl (hb hby d11_78) rfl ((if0 _ _).trans (teq (own_lcmp_self ic : (lcmpW ic ic) = (0 : Int32))).2) ?_
      refine XS.iconst X6.here hx rfl (hb hby d11_81) ?_
      refine XS.goto X6.here hx rfl (pc0 := 82) (pc' := 86) rfl (hb hby d11_82) (by decide) (by decide) ?_
      show Steps p.tables e below (T6.setTop (mkF m 86 #[.val (.ref a1), .val (.ref a2), .val (.ref a2), .val (.long ic), .second, .val (.long ic), .second] [(.int (1 : Int32))])) _
      exact retN X6 hx (t := .boolean) Bd.returns (by simp) (hb hby d11_86) hr
    · show QrmEq Z a1 a2 sc ic h0 n0 _ T6.heap _
      rw [e6]
      exact ⟨rfl, N0, rfl⟩
def own_dr (x : Int64) : Int32 := (((((((64 : Int32) - own_nlzL x) + (1 : Int32)) * (1233 : Int32))).toUInt32 >>> ((12 : Int32) &&& 31).toUInt32).toInt32)
def own_dla (x : Int64) : Int32 := if lcmpW x (10 : Int64) < (0 : Int32) then (1 : Int32) else if lcmpW x (own_pw (own_dr x)) < (0 : Int32) then own_dr x else own_dr x + (1 : Int32)
def own_dl (x : Int64) : Int32 := own_dla (own_abs x)
def own_HB (x : Int64) : Prop := -100000000000000000 < x.toInt ∧ x.toInt < 100000000000000000
theorem own_ushr (x : Int32) : (own_u x (1 : Int32)).toInt = (x.toInt % 4294967296) / 2 := c_iushr x 1 1 (by decide) (by decide)
theorem own_ushr2 (x : Int32) : (own_u x (2 : Int32)).toInt = (x.toInt % 4294967296) / 4 := c_iushr x 2 2 (by decide) (by decide)
theorem own_ushr4 (x : Int32) : (own_u x (4 : Int32)).toInt = (x.toInt % 4294967296) / 16 := c_iushr x 4 4 (by decide) (by decide)
theorem own_ushr8 (x : Int32) : (own_u x (8 : Int32)).toInt = (x.toInt % 4294967296) / 256 := c_iushr x 8 8 (by decide) (by decide)
theorem own_ushr16 (x : Int32) : (own_u x (16 : Int32)).toInt = (x.toInt % 4294967296) / 65536 := c_iushr x 16 16 (by decide) (by decide)
theorem own_nlz_spec (x : Int32) (h : 0 < x.toInt) : ∃ (L : Nat) (lo : Int), 1 ≤ L ∧ L ≤ 31 ∧ (own_nlz x).toInt = 32 - (L : Int) ∧ lo = ((2 ^ (L - 1) : Nat) : Int) ∧ lo ≤ x.toInt ∧ x.toInt < 2 * lo := by
  have hp : (0 : Int32) < x := Int32.lt_iff_toInt_lt.mpr h
  have hub := Int32.toInt_lt x
  have k3 : (65536 : Int32).toInt = 65536 := rfl
  have k2 : (256 : Int32).toInt = 256 := rfl
  have k1 : (16 : Int32).toInt = 16 := rfl
  have k0 : (4 : Int32).toInt = 4 := rfl
  rw [own_nlz, if_pos hp]
  by_cases h16 : x < (65536 : Int32)
  · rw [if_pos h16]
    rw [Int32.lt_iff_toInt_lt] at h16
    by_cases h8 : x < (256 : Int32)
    · rw [if_pos h8]
      rw [Int32.lt_iff_toInt_lt] at h8
      by_cases h4 : x < (16 : Int32)
      · rw [if_pos h4]
        rw [Int32.lt_iff_toInt_lt] at h4
        by_cases h2 : x < (4 : Int32)
        · rw [if_pos h2]
          rw [Int32.lt_iff_toInt_lt] at h2
          have f9 := own_ushr x
          have f8 : ((31 : Int32)).toInt = 31 := by decide
          have f7 := c_isub (31 : Int32) (own_u x (1 : Int32))
          have f6 := Int32.toInt_lt ((31 : Int32) - (own_u x (1 : Int32)))
          have f5 := Int32.le_toInt ((31 : Int32) - (own_u x (1 : Int32)))
          by_cases hz : (own_u x (1 : Int32)).toInt = 0
          · exact ⟨1, 1, by omega, by omega, by omega, by decide, by omega, by omega⟩
          · exact ⟨2, 2, by omega, by omega, by omega, by decide, by omega, by omega⟩
        · rw [if_neg h2]
          rw [Int32.lt_iff_toInt_lt] at h2
          have g2 := own_ushr2 x
          have f9 := own_ushr (own_u x (2 : Int32))
          have f8 : (((31 : Int32) + (-2 : Int32))).toInt = 29 := by decide
          have f7 := c_isub ((31 : Int32) + (-2 : Int32)) (own_u (own_u x (2 : Int32)) (1 : Int32))
          have f6 := Int32.toInt_lt (((31 : Int32) + (-2 : Int32)) - (own_u (own_u x (2 : Int32)) (1 : Int32)))
          have f5 := Int32.le_toInt (((31 : Int32) + (-2 : Int32)) - (own_u (own_u x (2 : Int32)) (1 : Int32)))
          by_cases hz : (own_u (own_u x (2 : Int32)) (1 : Int32)).toInt = 0
          · exact ⟨3, 4, by omega, by omega, by omega, by decide, by omega, by omega⟩
          · exact ⟨4, 8, by omega, by omega, by omega, by decide, by omega, by omega⟩
      · rw [if_neg h4]
        rw [Int32.lt_iff_toInt_lt] at h4
        have g4 := own_ushr4 x
        by_cases h2 : (own_u x (4 : Int32)) < (4 : Int32)
        · rw [if_pos h2]
          rw [Int32.lt_iff_toInt_lt] at h2
          have f9 := own_ushr (own_u x (4 : Int32))
          have f8 : (((31 : Int32) + (-4 : Int32))).toInt = 27 := by decide
          have f7 := c_isub ((31 : Int32) + (-4 : Int32)) (own_u (own_u x (4 : Int32)) (1 : Int32))
          have f6 := Int32.toInt_lt (((31 : Int32) + (-4 : Int32)) - (own_u (own_u x (4 : Int32)) (1 : Int32)))
          have f5 := Int32.le_toInt (((31 : Int32) + (-4 : Int32)) - (own_u (own_u x (4 : Int32)) (1 : Int32)))
          by_cases hz : (own_u (own_u x (4 : Int32)) (1 : Int32)).toInt = 0
          · exact ⟨5, 16, by omega, by omega, by omega, by decide, by omega, by omega⟩
          · exact ⟨6, 32, by omega, by omega, by omega, by decide, by omega, by omega⟩
        · rw [if_neg h2]
          rw [Int32.lt_iff_toInt_lt] at h2
          have g2 := own_ushr2 (own_u x (4 : Int32))
          have f9 := own_ushr (own_u (own_u x (4 : Int32)) (2 : Int32))
          have f8 : ((((31 : Int32) + (-4 : Int32)) + (-2 : Int32))).toInt = 25 := by decide
          have f7 := c_isub (((31 : Int32) + (-4 : Int32)) + (-2 : Int32)) (own_u (own_u (own_u x (4 : Int32)) (2 : Int32)) (1 : Int32))
          have f6 := Int32.toInt_lt ((((31 : Int32) + (-4 : Int32)) + (-2 : Int32)) - (own_u (own_u (own_u x (4 : Int32)) (2 : Int32)) (1 : Int32)))
          have f5 := Int32.le_toInt ((((31 : Int32) + (-4 : Int32)) + (-2 : Int32)) - (own_u (own_u (own_u x (4 : Int32)) (2 : Int32)) (1 : Int32)))
          by_cases hz : (own_u (own_u (own_u x (4 : Int32)) (2 : Int32)) (1 : Int32)).toInt = 0
          · exact ⟨7, 64, by omega, by omega, by omega, by decide, by omega, by omega⟩
          · exact ⟨8, 128, by omega, by omega, by omega, by decide, by omega, by omega⟩
    · rw [if_neg h8]
      rw [Int32.lt_iff_toInt_lt] at h8
      have g8 := own_ushr8 x
      by_cases h4 : (own_u x (8 : Int32)) < (16 : Int32)
      · rw [if_pos h4]
        rw [Int32.lt_iff_toInt_lt] at h4
        by_cases h2 : (own_u x (8 : Int32)) < (4 : Int32)
        · rw [if_pos h2]
          rw [Int32.lt_iff_toInt_lt] at h2
          have f9 := own_ushr (own_u x (8 : Int32))
          have f8 : (((31 : Int32) + (-8 : Int32))).toInt = 23 := by decide
          have f7 := c_isub ((31 : Int32) + (-8 : Int32)) (own_u (own_u x (8 : Int32)) (1 : Int32))
          have f6 := Int32.toInt_lt (((31 : Int32) + (-8 : Int32)) - (own_u (own_u x (8 : Int32)) (1 : Int32)))
          have f5 := Int32.le_toInt (((31 : Int32) + (-8 : Int32)) - (own_u (own_u x (8 : Int32)) (1 : Int32)))
          by_cases hz : (own_u (own_u x (8 : Int32)) (1 : Int32)).toInt = 0
          · exact ⟨9, 256, by omega, by omega, by omega, by decide, by omega, by omega⟩
          · exact ⟨10, 512, by omega, by omega, by omega, by decide, by omega, by omega⟩
        · rw [if_neg h2]
          rw [Int32.lt_iff_toInt_lt] at h2
          have g2 := own_ushr2 (own_u x (8 : Int32))
          have f9 := own_ushr (own_u (own_u x (8 : Int32)) (2 : Int32))
          have f8 : ((((31 : Int32) + (-8 : Int32)) + (-2 : Int32))).toInt = 21 := by decide
          have f7 := c_isub (((31 : Int32) + (-8 : Int32)) + (-2 : Int32)) (own_u (own_u (own_u x (8 : Int32)) (2 : Int32)) (1 : Int32))
          have f6 := Int32.toInt_lt ((((31 : Int32) + (-8 : Int32)) + (-2 : Int32)) - (own_u (own_u (own_u x (8 : Int32)) (2 : Int32)) (1 : Int32)))
          have f5 := Int32.le_toInt ((((31 : Int32) + (-8 : Int32)) + (-2 : Int32)) - (own_u (own_u (own_u x (8 : Int32)) (2 : Int32)) (1 : Int32)))
          by_cases hz : (own_u (own_u (own_u x (8 : Int32)) (2 : Int32)) (1 : Int32)).toInt = 0
          · exact ⟨11, 1024, by omega, by omega, by omega, by decide, by omega, by omega⟩
          · exact ⟨12, 2048, by omega, by omega, by omega, by decide, by omega, by omega⟩
      · rw [if_neg h4]
        rw [Int32.lt_iff_toInt_lt] at h4
        have g4 := own_ushr4 (own_u x (8 : Int32))
        by_cases h2 : (own_u (own_u x (8 : Int32)) (4 : Int32)) < (4 : Int32)
        · rw [if_pos h2]
          rw [Int32.lt_iff_toInt_lt] at h2
          have f9 := own_ushr (own_u (own_u x (8 : Int32)) (4 : Int32))
          have f8 : ((((31 : Int32) + (-8 : Int32)) + (-4 : Int32))).toInt = 19 := by decide
          have f7 := c_isub (((31 : Int32) + (-8 : Int32)) + (-4 : Int32)) (own_u (own_u (own_u x (8 : Int32)) (4 : Int32)) (1 : Int32))
          have f6 := Int32.toInt_lt ((((31 : Int32) + (-8 : Int32)) + (-4 : Int32)) - (own_u (own_u (own_u x (8 : Int32)) (4 : Int32)) (1 : Int32)))
          have f5 := Int32.le_toInt ((((31 : Int32) + (-8 : Int32)) + (-4 : Int32)) - (own_u (own_u (own_u x (8 : Int32)) (4 : Int32)) (1 : Int32)))
          by_cases hz : (own_u (own_u (own_u x (8 : Int32)) (4 : Int32)) (1 : Int32)).toInt = 0
          · exact ⟨13, 4096, by omega, by omega, by omega, by decide, by omega, by omega⟩
          · exact ⟨14, 8192, by omega, by omega, by omega, by decide, by omega, by omega⟩
        · rw [if_neg h2]
          rw [Int32.lt_iff_toInt_lt] at h2
          have g2 := own_ushr2 (own_u (own_u x (8 : Int32)) (4 : Int32))
          have f9 := own_ushr (own_u (own_u (own_u x (8 : Int32)) (4 : Int32)) (2 : Int32))
          have f8 : (((((31 : Int32) + (-8 : Int32)) + (-4 : Int32)) + (-2 : Int32))).toInt = 17 := by decide
          have f7 := c_isub ((((31 : Int32) + (-8 : Int32)) + (-4 : Int32)) + (-2 : Int32)) (own_u (own_u (own_u (own_u x (8 : Int32)) (4 : Int32)) (2 : Int32)) (1 : Int32))
          have f6 := Int32.toInt_lt (((((31 : Int32) + (-8 : Int32)) + (-4 : Int32)) + (-2 : Int32)) - (own_u (own_u (own_u (own_u x (8 : Int32)) (4 : Int32)) (2 : Int32)) (1 : Int32)))
          have f5 := Int32.le_toInt (((((31 : Int32) + (-8 : Int32)) + (-4 : Int32)) + (-2 : Int32)) - (own_u (own_u (own_u (own_u x (8 : Int32)) (4 : Int32)) (2 : Int32)) (1 : Int32)))
          by_cases hz : (own_u (own_u (own_u (own_u x (8 : Int32)) (4 : Int32)) (2 : Int32)) (1 : Int32)).toInt = 0
          · exact ⟨15, 16384, by omega, by omega, by omega, by decide, by omega, by omega⟩
          · exact ⟨16, 32768, by omega, by omega, by omega, by decide, by omega, by omega⟩
  · rw [if_neg h16]
    rw [Int32.lt_iff_toInt_lt] at h16
    have g16 := own_ushr16 x
    by_cases h8 : (own_u x (16 : Int32)) < (256 : Int32)
    · rw [if_pos h8]
      rw [Int32.lt_iff_toInt_lt] at h8
      by_cases h4 : (own_u x (16 : Int32)) < (16 : Int32)
      · rw [if_pos h4]
        rw [Int32.lt_iff_toInt_lt] at h4
        by_cases h2 : (own_u x (16 : Int32)) < (4 : Int32)
        · rw [if_pos h2]
          rw [Int32.lt_iff_toInt_lt] at h2
          have f9 := own_ushr (own_u x (16 : Int32))
          have f8 : (((31 : Int32) + (-16 : Int32))).toInt = 15 := by decide
          have f7 := c_isub ((31 : Int32) + (-16 : Int32)) (own_u (own_u x (16 : Int32)) (1 : Int32))
          have f6 := Int32.toInt_lt (((31 : Int32) + (-16 : Int32)) - (own_u (own_u x (16 : Int32)) (1 : Int32)))
          have f5 := Int32.le_toInt (((31 : Int32) + (-16 : Int32)) - (own_u (own_u x (16 : Int32)) (1 : Int32)))
          by_cases hz : (own_u (own_u x (16 : Int32)) (1 : Int32)).toInt = 0
          · exact ⟨17, 65536, by omega, by omega, by omega, by decide, by omega, by omega⟩
          · exact ⟨18, 131072, by omega, by omega, by omega, by decide, by omega, by omega⟩
        · rw [if_neg h2]
          rw [Int32.lt_iff_toInt_lt] at h2
          have g2 := own_ushr2 (own_u x (16 : Int32))
          have f9 := own_ushr (own_u (own_u x (16 : Int32)) (2 : Int32))
          have f8 : ((((31 : Int32) + (-16 : Int32)) + (-2 : Int32))).toInt = 13 := by decide
          have f7 := c_isub (((31 : Int32) + (-16 : Int32)) + (-2 : Int32)) (own_u (own_u (own_u x (16 : Int32)) (2 : Int32)) (1 : Int32))
          have f6 := Int32.toInt_lt ((((31 : Int32) + (-16 : Int32)) + (-2 : Int32)) - (own_u (own_u (own_u x (16 : Int32)) (2 : Int32)) (1 : Int32)))
          have f5 := Int32.le_toInt ((((31 : Int32) + (-16 : Int32)) + (-2 : Int32)) - (own_u (own_u (own_u x (16 : Int32)) (2 : Int32)) (1 : Int32)))
          by_cases hz : (own_u (own_u (own_u x (16 : Int32)) (2 : Int32)) (1 : Int32)).toInt = 0
          · exact ⟨19, 262144, by omega, by omega, by omega, by decide, by omega, by omega⟩
          · exact ⟨20, 524288, by omega, by omega, by omega, by decide, by omega, by omega⟩
      · rw [if_neg h4]
        rw [Int32.lt_iff_toInt_lt] at h4
        have g4 := own_ushr4 (own_u x (16 : Int32))
        by_cases h2 : (own_u (own_u x (16 : Int32)) (4 : Int32)) < (4 : Int32)
        · rw [if_pos h2]
          rw [Int32.lt_iff_toInt_lt] at h2
          have f9 := own_ushr (own_u (own_u x (16 : Int32)) (4 : Int32))
          have f8 : ((((31 : Int32) + (-16 : Int32)) + (-4 : Int32))).toInt = 11 := by decide
          have f7 := c_isub (((31 : Int32) + (-16 : Int32)) + (-4 : Int32)) (own_u (own_u (own_u x (16 : Int32)) (4 : Int32)) (1 : Int32))
          have f6 := Int32.toInt_lt ((((31 : Int32) + (-16 : Int32)) + (-4 : Int32)) - (own_u (own_u (own_u x (16 : Int32)) (4 : Int32)) (1 : Int32)))
          have f5 := Int32.le_toInt ((((31 : Int32) + (-16 : Int32)) + (-4 : Int32)) - (own_u (own_u (own_u x (16 : Int32)) (4 : Int32)) (1 : Int32)))
          by_cases hz : (own_u (own_u (own_u x (16 : Int32)) (4 : Int32)) (1 : Int32)).toInt = 0
          · exact ⟨21, 1048576, by omega, by omega, by omega, by decide, by omega, by omega⟩
          · exact ⟨22, 2097152, by omega, by omega, by omega, by decide, by omega, by omega⟩
        · rw [if_neg h2]
          rw [Int32.lt_iff_toInt_lt] at h2
          have g2 := own_ushr2 (own_u (own_u x (16 : Int32)) (4 : Int32))
          have f9 := own_ushr (own_u (own_u (own_u x (16 : Int32)) (4 : Int32)) (2 : Int32))
          have f8 : (((((31 : Int32) + (-16 : Int32)) + (-4 : Int32)) + (-2 : Int32))).toInt = 9 := by decide
          have f7 := c_isub ((((31 : Int32) + (-16 : Int32)) + (-4 : Int32)) + (-2 : Int32)) (own_u (own_u (own_u (own_u x (16 : Int32)) (4 : Int32)) (2 : Int32)) (1 : Int32))
          have f6 := Int32.toInt_lt (((((31 : Int32) + (-16 : Int32)) + (-4 : Int32)) + (-2 : Int32)) - (own_u (own_u (own_u (own_u x (16 : Int32)) (4 : Int32)) (2 : Int32)) (1 : Int32)))
          have f5 := Int32.le_toInt (((((31 : Int32) + (-16 : Int32)) + (-4 : Int32)) + (-2 : Int32)) - (own_u (own_u (own_u (own_u x (16 : Int32)) (4 : Int32)) (2 : Int32)) (1 : Int32)))
          by_cases hz : (own_u (own_u (own_u (own_u x (16 : Int32)) (4 : Int32)) (2 : Int32)) (1 : Int32)).toInt = 0
          · exact ⟨23, 4194304, by omega, by omega, by omega, by decide, by omega, by omega⟩
          · exact ⟨24, 8388608, by omega, by omega, by omega, by decide, by omega, by omega⟩
    · rw [if_neg h8]
      rw [Int32.lt_iff_toInt_lt] at h8
      have g8 := own_ushr8 (own_u x (16 : Int32))
      by_cases h4 : (own_u (own_u x (16 : Int32)) (8 : Int32)) < (16 : Int32)
      · rw [if_pos h4]
        rw [Int32.lt_iff_toInt_lt] at h4
        by_cases h2 : (own_u (own_u x (16 : Int32)) (8 : Int32)) < (4 : Int32)
        · rw [if_pos h2]
          rw [Int32.lt_iff_toInt_lt] at h2
          have f9 := own_ushr (own_u (own_u x (16 : Int32)) (8 : Int32))
          have f8 : ((((31 : Int32) + (-16 : Int32)) + (-8 : Int32))).toInt = 7 := by decide
          have f7 := c_isub (((31 : Int32) + (-16 : Int32)) + (-8 : Int32)) (own_u (own_u (own_u x (16 : Int32)) (8 : Int32)) (1 : Int32))
          have f6 := Int32.toInt_lt ((((31 : Int32) + (-16 : Int32)) + (-8 : Int32)) - (own_u (own_u (own_u x (16 : Int32)) (8 : Int32)) (1 : Int32)))
          have f5 := Int32.le_toInt ((((31 : Int32) + (-16 : Int32)) + (-8 : Int32)) - (own_u (own_u (own_u x (16 : Int32)) (8 : Int32)) (1 : Int32)))
          by_cases hz : (own_u (own_u (own_u x (16 : Int32)) (8 : Int32)) (1 : Int32)).toInt = 0
          · exact ⟨25, 16777216, by omega, by omega, by omega, by decide, by omega, by omega⟩
          · exact ⟨26, 33554432, by omega, by omega, by omega, by decide, by omega, by omega⟩
        · rw [if_neg h2]
          rw [Int32.lt_iff_toInt_lt] at h2
          have g2 := own_ushr2 (own_u (own_u x (16 : Int32)) (8 : Int32))
          have f9 := own_ushr (own_u (own_u (own_u x (16 : Int32)) (8 : Int32)) (2 : Int32))
          have f8 : (((((31 : Int32) + (-16 : Int32)) + (-8 : Int32)) + (-2 : Int32))).toInt = 5 := by decide
          have f7 := c_isub ((((31 : Int32) + (-16 : Int32)) + (-8 : Int32)) + (-2 : Int32)) (own_u (own_u (own_u (own_u x (16 : Int32)) (8 : Int32)) (2 : Int32)) (1 : Int32))
          have f6 := Int32.toInt_lt (((((31 : Int32) + (-16 : Int32)) + (-8 : Int32)) + (-2 : Int32)) - (own_u (own_u (own_u (own_u x (16 : Int32)) (8 : Int32)) (2 : Int32)) (1 : Int32)))
          have f5 := Int32.le_toInt (((((31 : Int32) + (-16 : Int32)) + (-8 : Int32)) + (-2 : Int32)) - (own_u (own_u (own_u (own_u x (16 : Int32)) (8 : Int32)) (2 : Int32)) (1 : Int32)))
          by_cases hz : (own_u (own_u (own_u (own_u x (16 : Int32)) (8 : Int32)) (2 : Int32)) (1 : Int32)).toInt = 0
          · exact ⟨27, 67108864, by omega, by omega, by omega, by decide, by omega, by omega⟩
          · exact ⟨28, 134217728, by omega, by omega, by omega, by decide, by omega, by omega⟩
      · rw [if_neg h4]
        rw [Int32.lt_iff_toInt_lt] at h4
        have g4 := own_ushr4 (own_u (own_u x (16 : Int32)) (8 : Int32))
        by_cases h2 : (own_u (own_u (own_u x (16 : Int32)) (8 : Int32)) (4 : Int32)) < (4 : Int32)
        · rw [if_pos h2]
          rw [Int32.lt_iff_toInt_lt] at h2
          have f9 := own_ushr (own_u (own_u (own_u x (16 : Int32)) (8 : Int32)) (4 : Int32))
          have f8 : (((((31 : Int32) + (-16 : Int32)) + (-8 : Int32)) + (-4 : Int32))).toInt = 3 := by decide
          have f7 := c_isub ((((31 : Int32) + (-16 : Int32)) + (-8 : Int32)) + (-4 : Int32)) (own_u (own_u (own_u (own_u x (16 : Int32)) (8 : Int32)) (4 : Int32)) (1 : Int32))
          have f6 := Int32.toInt_lt (((((31 : Int32) + (-16 : Int32)) + (-8 : Int32)) + (-4 : Int32)) - (own_u (own_u (own_u (own_u x (16 : Int32)) (8 : Int32)) (4 : Int32)) (1 : Int32)))
          have f5 := Int32.le_toInt (((((31 : Int32) + (-16 : Int32)) + (-8 : Int32)) + (-4 : Int32)) - (own_u (own_u (own_u (own_u x (16 : Int32)) (8 : Int32)) (4 : Int32)) (1 : Int32)))
          by_cases hz : (own_u (own_u (own_u (own_u x (16 : Int32)) (8 : Int32)) (4 : Int32)) (1 : Int32)).toInt = 0
          · exact ⟨29, 268435456, by omega, by omega, by omega, by decide, by omega, by omega⟩
          · exact ⟨30, 536870912, by omega, by omega, by omega, by decide, by omega, by omega⟩
        · rw [if_neg h2]
          rw [Int32.lt_iff_toInt_lt] at h2
          have g2 := own_ushr2 (own_u (own_u (own_u x (16 : Int32)) (8 : Int32)) (4 : Int32))
          have f9 := own_ushr (own_u (own_u (own_u (own_u x (16 : Int32)) (8 : Int32)) (4 : Int32)) (2 : Int32))
          have f8 : ((((((31 : Int32) + (-16 : Int32)) + (-8 : Int32)) + (-4 : Int32)) + (-2 : Int32))).toInt = 1 := by decide
          have f7 := c_isub (((((31 : Int32) + (-16 : Int32)) + (-8 : Int32)) + (-4 : Int32)) + (-2 : Int32)) (own_u (own_u (own_u (own_u (own_u x (16 : Int32)) (8 : Int32)) (4 : Int32)) (2 : Int32)) (1 : Int32))
          have f6 := Int32.toInt_lt ((((((31 : Int32) + (-16 : Int32)) + (-8 : Int32)) + (-4 : Int32)) + (-2 : Int32)) - (own_u (own_u (own_u (own_u (own_u x (16 : Int32)) (8 : Int32)) (4 : Int32)) (2 : Int32)) (1 : Int32)))
          have f5 := Int32.le_toInt ((((((31 : Int32) + (-16 : Int32)) + (-8 : Int32)) + (-4 : Int32)) + (-2 : Int32)) - (own_u (own_u (own_u (own_u (own_u x (16 : Int32)) (8 : Int32)) (4 : Int32)) (2 : Int32)) (1 : Int32)))
          by_cases hz : (own_u (own_u (own_u (own_u (own_u x (16 : Int32)) (8 : Int32)) (4 : Int32)) (2 : Int32)) (1 : Int32)).toInt = 0
          · exact ⟨31, 1073741824, by omega, by omega, by omega, by decide, by omega, by omega⟩
          · exact ⟨32, 2147483648, by omega, by omega, by omega, by decide, by omega, by omega⟩
theorem own_nlz_neg (x : Int32) (h : x.toInt < 0) : own_nlz x = 0 := by
  have e0 : (0 : Int32).toInt = 0 := rfl
  have h1 : ¬ ((0 : Int32) < x) := by rw [Int32.lt_iff_toInt_lt]; omega
  have h2 : ¬ (x = (0 : Int32)) := fun q => by rw [q] at h; omega
  rw [own_nlz, if_neg h1, if_neg h2]
theorem own_hi_i (x : Int64) (h0 : 0 ≤ x.toInt) (h1 : x.toInt < 100000000000000000) : (own_hi x).toInt = x.toInt / 4294967296 := by
  have q1 := c_lushr x 32 32 (by decide) (by decide)
  have q2 := c_l2i ((x.toUInt64 >>> ((32 : Int32) &&& 0x3f).toInt64.toUInt64).toInt64)
  have q3 : (own_hi x).toInt = (((x.toUInt64 >>> ((32 : Int32) &&& 0x3f).toInt64.toUInt64).toInt64).toInt32).toInt := rfl
  have q4 := Int32.toInt_lt (own_hi x)
  have q5 := Int32.le_toInt (own_hi x)
  omega
theorem own_nlzL_spec (x : Int64) (h0 : 0 < x.toInt) (h1 : x.toInt < 100000000000000000) : ∃ (L : Nat) (lo : Int), 1 ≤ L ∧ (own_nlzL x).toInt = 64 - (L : Int) ∧ lo = ((2 ^ (L - 1) : Nat) : Int) ∧ lo ≤ x.toInt ∧ x.toInt < 2 * lo ∧ L ≤ 63 := by
  have hh := own_hi_i x (by omega) h1
  have e0 : (0 : Int32).toInt = 0 := rfl
  by_cases q : own_hi x = (0 : Int32)
  · rw [own_nlzL, if_pos q]
    rw [q] at hh
    have q2 := c_l2i x
    have q3 := Int32.toInt_lt x.toInt32
    have q4 := Int32.le_toInt x.toInt32
    have a1 := c_iadd (32 : Int32) (own_nlz x.toInt32)
    have a2 := Int32.toInt_lt ((32 : Int32) + own_nlz x.toInt32)
    have a3 := Int32.le_toInt ((32 : Int32) + own_nlz x.toInt32)
    have a4 : (32 : Int32).toInt = 32 := rfl
    by_cases n : x.toInt32.toInt < 0
    · have z := own_nlz_neg _ n
      have z0 : (own_nlz x.toInt32).toInt = 0 := by rw [z]; rfl
      exact ⟨32, 2147483648, by omega, by omega, by decide, by omega, by omega, by omega⟩
    · obtain ⟨L, lo, b1, b2, b3, b4, b5, b6⟩ := own_nlz_spec x.toInt32 (by omega)
      exact ⟨L, lo, b1, by omega, b4, by omega, by omega, by omega⟩
  · rw [own_nlzL, if_neg q]
    have q' : (own_hi x).toInt ≠ 0 := fun z => q (Int32.toInt_inj.mp (by omega))
    obtain ⟨L, lo, b1, b2, b3, b4, b5, b6⟩ := own_nlz_spec (own_hi x) (by omega)
    refine ⟨L + 32, lo * 4294967296, by omega, by omega, ?_, by omega, by omega, by omega⟩
    rw [show L + 32 - 1 = (L - 1) + 32 by omega, Nat.pow_add, b4]
    exact (Int.natCast_mul _ _).symm
def own_rr (L : Nat) : Nat := (L + 1) * 1233 / 4096
theorem own_rrs : ∀ L : Fin 58, 4 ≤ L.1 → 1 ≤ own_rr L.1 ∧ own_rr L.1 ≤ 17 ∧ 10 ^ (own_rr L.1 - 1) ≤ 2 ^ (L.1 - 1) ∧ 2 ^ L.1 ≤ 10 ^ (own_rr L.1 + 1) := by decide +kernel
theorem own_dr_spec (x : Int64) (h0 : 10 ≤ x.toInt) (h1 : x.toInt < 100000000000000000) : ∃ r : Nat, (own_dr x).toInt = r ∧ 1 ≤ r ∧ r ≤ 17 ∧ ((10 ^ (r - 1) : Nat) : Int) ≤ x.toInt ∧ x.toInt < ((10 ^ (r + 1) : Nat) : Int) := by
  obtain ⟨L, lo, b1, b2, b3, b4, b5, b6⟩ := own_nlzL_spec x (by omega) h1
  have L4 : 4 ≤ L := by
    refine Nat.le_of_not_lt fun z => ?_
    have : L = 1 ∨ L = 2 ∨ L = 3 := by omega
    rcases this with rfl | rfl | rfl <;> simp at b3 <;> omega
  have L57 : L ≤ 57 := by
    refine Nat.le_of_not_lt fun z => ?_
    have c1 : 2 ^ 57 ≤ 2 ^ (L - 1) := Nat.pow_le_pow_right (by decide) (by omega)
    have c2 : (2 : Nat) ^ 57 = 144115188075855872 := by decide
    omega
  obtain ⟨r1, r2, r3, r4⟩ := own_rrs ⟨L, by omega⟩ L4
  simp only at r1 r2 r3 r4
  have d1 := c_isub (64 : Int32) (own_nlzL x)
  have d2 := Int32.toInt_lt ((64 : Int32) - own_nlzL x)
  have d3 := Int32.le_toInt ((64 : Int32) - own_nlzL x)
  have d4 := c_iadd ((64 : Int32) - own_nlzL x) (1 : Int32)
  have d5 := Int32.toInt_lt (((64 : Int32) - own_nlzL x) + (1 : Int32))
  have d6 := Int32.le_toInt (((64 : Int32) - own_nlzL x) + (1 : Int32))
  have k1 : (64 : Int32).toInt = 64 := rfl
  have k2 : (1 : Int32).toInt = 1 := rfl
  have k3 : (1233 : Int32).toInt = 1233 := rfl
  have e1 : (((64 : Int32) - own_nlzL x) + (1 : Int32)).toInt = L + 1 := by omega
  have d7 := c_imul (((64 : Int32) - own_nlzL x) + (1 : Int32)) (1233 : Int32)
  rw [e1, k3] at d7
  have d8 := Int32.toInt_lt ((((64 : Int32) - own_nlzL x) + (1 : Int32)) * (1233 : Int32))
  have d9 := Int32.le_toInt ((((64 : Int32) - own_nlzL x) + (1 : Int32)) * (1233 : Int32))
  have e2 : ((((64 : Int32) - own_nlzL x) + (1 : Int32)) * (1233 : Int32)).toInt = (L + 1) * 1233 := by omega
  have d10 := c_iushr ((((64 : Int32) - own_nlzL x) + (1 : Int32)) * (1233 : Int32)) 12 12 (by decide) (by decide)
  rw [e2] at d10
  have e3 : (own_dr x).toInt = (own_rr L : Int) := by
    have : (own_dr x).toInt = (((((((64 : Int32) - own_nlzL x) + (1 : Int32)) * (1233 : Int32))).toUInt32 >>> ((12 : Int32) &&& 31).toUInt32).toInt32).toInt := rfl
    rw [this, d10, Int.emod_eq_of_lt (by omega) (by omega)]
    unfold own_rr
    omega
  have p2 : 2 ^ L = 2 * 2 ^ (L - 1) := by
    rw [show L = (L - 1) + 1 by omega, Nat.pow_succ]
    simp; omega
  exact ⟨own_rr L, e3, r1, r2, by omega, by omega⟩
theorem own_pw_i (k : Int32) (h0 : 0 ≤ k.toInt) (h1 : k.toInt < 19) : (own_pw k).toInt = ((10 ^ k.toInt.toNat : Nat) : Int) := by
  have e : k.toNatClampNeg = k.toInt.toNat := rfl
  have l : 10 ^ k.toInt.toNat ≤ 10 ^ 18 := Nat.pow_le_pow_right (by decide) (by omega)
  have c : (10 : Nat) ^ 18 = 1000000000000000000 := by decide
  rw [own_pw, own_p, e]
  exact Int64.toInt_ofNat_of_lt (by omega)
theorem own_dla_spec (x : Int64) (h0 : 1 ≤ x.toInt) (h1 : x.toInt < 100000000000000000) : ∃ D : Nat, (own_dla x).toInt = D ∧ 1 ≤ D ∧ D ≤ 18 ∧ ((10 ^ (D - 1) : Nat) : Int) ≤ x.toInt ∧ x.toInt < ((10 ^ D : Nat) : Int) := by
  have k10 : (10 : Int64).toInt = 10 := rfl
  by_cases q : lcmpW x (10 : Int64) < (0 : Int32)
  · have q' := (lw_lt _ _).mp q
    rw [Int64.lt_iff_toInt_lt] at q'
    rw [own_dla, if_pos q]
    exact ⟨1, rfl, by omega, by omega, by simp; omega, by simp; omega⟩
  · have q' : ¬ (x < (10 : Int64)) := fun z => q ((lw_lt _ _).mpr z)
    rw [Int64.lt_iff_toInt_lt] at q'
    obtain ⟨r, e1, r1, r2, r3, r4⟩ := own_dr_spec x (by omega) h1
    have pw := own_pw_i (own_dr x) (by omega) (by omega)
    rw [e1, show ((r : Int)).toNat = r by omega] at pw
    by_cases z : lcmpW x (own_pw (own_dr x)) < (0 : Int32)
    · have z' := (lw_lt _ _).mp z
      rw [Int64.lt_iff_toInt_lt] at z'
      rw [own_dla, if_neg q, if_pos z]
      exact ⟨r, e1, r1, by omega, r3, by omega⟩
    · have z' : ¬ (x < own_pw (own_dr x)) := fun y => z ((lw_lt _ _).mpr y)
      rw [Int64.lt_iff_toInt_lt] at z'
      rw [own_dla, if_neg q, if_neg z]
      have a1 := c_iadd (own_dr x) (1 : Int32)
      have a2 := Int32.toInt_lt (own_dr x + (1 : Int32))
      have a3 := Int32.le_toInt (own_dr x + (1 : Int32))
      have k2 : (1 : Int32).toInt = 1 := rfl
      refine ⟨r + 1, by omega, by omega, by omega, ?_, r4⟩
      rw [show r + 1 - 1 = r by omega]
      omega
theorem own_dr_lt {x : Int64} (h : own_HB x) (q : ¬ (lcmpW (own_abs x) (10 : Int64) < (0 : Int32))) : 0 ≤ (own_dr (own_abs x)).toInt ∧ (own_dr (own_abs x)).toInt < 19 := by
  have a := own_abs_i x (by have := h.1; omega)
  have k10 : (10 : Int64).toInt = 10 := rfl
  have q' : ¬ (own_abs x < (10 : Int64)) := fun z => q ((lw_lt _ _).mpr z)
  rw [Int64.lt_iff_toInt_lt] at q'
  obtain ⟨h1, h2⟩ := h
  obtain ⟨r, e1, r1, r2, r3, r4⟩ := own_dr_spec (own_abs x) (by omega) (by omega)
  omega
theorem d40_0 : decode c_0 0 = .ok (.getstatic 311, 3) := by decide +kernel
theorem d40_3 : decode c_0 3 = .ok (.ifCond .ne 19, 3) := by decide +kernel
theorem d40_22 : decode c_0 22 = .ok (.lload_n 0, 1) := by decide +kernel
theorem d40_23 : decode c_0 23 = .ok (.lconst 0, 1) := by decide +kernel
theorem d40_24 : decode c_0 24 = .ok (.lcmp, 1) := by decide +kernel
theorem d40_25 : decode c_0 25 = .ok (.ifCond .ge 6, 3) := by decide +kernel
theorem d40_28 : decode c_0 28 = .ok (.lload_n 0, 1) := by decide +kernel
theorem d40_29 : decode c_0 29 = .ok (.lneg, 1) := by decide +kernel
theorem d40_30 : decode c_0 30 = .ok (.lstore_n 0, 1) := by decide +kernel
theorem d40_31 : decode c_0 31 = .ok (.lload_n 0, 1) := by decide +kernel
theorem d40_32 : decode c_0 32 = .ok (.ldc2_w 56, 3) := by decide +kernel
theorem d40_35 : decode c_0 35 = .ok (.lcmp, 1) := by decide +kernel
theorem d40_36 : decode c_0 36 = .ok (.ifCond .ge 5, 3) := by decide +kernel
theorem d40_39 : decode c_0 39 = .ok (.iconst 1, 1) := by decide +kernel
theorem d40_40 : decode c_0 40 = .ok (.ireturn, 1) := by decide +kernel
theorem d40_41 : decode c_0 41 = .ok (.bipush 64, 2) := by decide +kernel
theorem d40_43 : decode c_0 43 = .ok (.lload_n 0, 1) := by decide +kernel
theorem d40_44 : decode c_0 44 = .ok (.invokestatic 761, 3) := by decide +kernel
theorem d40_47 : decode c_0 47 = .ok (.isub, 1) := by decide +kernel
theorem d40_48 : decode c_0 48 = .ok (.iconst 1, 1) := by decide +kernel
theorem d40_49 : decode c_0 49 = .ok (.iadd, 1) := by decide +kernel
theorem d40_50 : decode c_0 50 = .ok (.sipush 1233, 3) := by decide +kernel
theorem d40_53 : decode c_0 53 = .ok (.imul, 1) := by decide +kernel
theorem d40_54 : decode c_0 54 = .ok (.bipush 12, 2) := by decide +kernel
theorem d40_56 : decode c_0 56 = .ok (.iushr, 1) := by decide +kernel
theorem d40_57 : decode c_0 57 = .ok (.istore_n 2, 1) := by decide +kernel
theorem d40_58 : decode c_0 58 = .ok (.getstatic 95, 3) := by decide +kernel
theorem d40_61 : decode c_0 61 = .ok (.astore_n 3, 1) := by decide +kernel
theorem d40_62 : decode c_0 62 = .ok (.iload_n 2, 1) := by decide +kernel
theorem d40_63 : decode c_0 63 = .ok (.aload_n 3, 1) := by decide +kernel
theorem d40_64 : decode c_0 64 = .ok (.arraylength, 1) := by decide +kernel
theorem d40_65 : decode c_0 65 = .ok (.if_icmp .ge 11, 3) := by decide +kernel
theorem d40_68 : decode c_0 68 = .ok (.lload_n 0, 1) := by decide +kernel
theorem d40_69 : decode c_0 69 = .ok (.aload_n 3, 1) := by decide +kernel
theorem d40_70 : decode c_0 70 = .ok (.iload_n 2, 1) := by decide +kernel
theorem d40_71 : decode c_0 71 = .ok (.laload, 1) := by decide +kernel
theorem d40_72 : decode c_0 72 = .ok (.lcmp, 1) := by decide +kernel
theorem d40_73 : decode c_0 73 = .ok (.ifCond .ge 7, 3) := by decide +kernel
theorem d40_76 : decode c_0 76 = .ok (.iload_n 2, 1) := by decide +kernel
theorem d40_77 : decode c_0 77 = .ok (.goto 6, 3) := by decide +kernel
theorem d40_83 : decode c_0 83 = .ok (.ireturn, 1) := by decide +kernel
theorem d40_80 : decode c_0 80 = .ok (.iload_n 2, 1) := by decide +kernel
theorem d40_81 : decode c_0 81 = .ok (.iconst 1, 1) := by decide +kernel
theorem d40_82 : decode c_0 82 = .ok (.iadd, 1) := by decide +kernel
theorem ef_rmDl (m : MethodId) (x0 : Int64) : entryFrame m #[(.long x0)] 4 = mkF m 0 #[.val (.long x0), .second, .unset, .unset] [] := by first | (simp [entryFrame, mkF, argsToLocals, Value.category]; done) | rfl
def QrmDl (Z : State) (x : Int64)  (h0 : Heap) (n0 : Nat) (v : Option Value) (h : Heap) (L : List Loc) : Prop := v = some (.int (own_dl x)) ∧ Fr n0 L ∧ h = h0
theorem rmDl (l : Launch) (Z : State) (a0 : Array Value) (hw : ∀ d ∈ tables_1, d.before a0 Z = true) (ws : List Jvm.Cond) (x : Int64)  (h0 : Heap) (n0 : Nat) (Z0 : n0 ≤ h0.size) (J : own_J Z) (O0 : Old Z n0 h0) (hB : own_HB x) :
    MetFree l m_35 (head1 (Jvm.Cond.code m_35 jdk_17_method_104_code 4 (some .int) :: ws) ({ frames := 2, cells := 0, slots := 0, locals := 29 } : Room)) (fun a U => a = #[(.long x)] ∧ Z.Warmed39 U.vm ∧ U.heap = h0) (fun _ _ _ _ _ => True) (fun _ U o U' => ∃ v L, o = .returned v ∧ QrmDl Z x  h0 n0 v U'.heap L ∧ FrameEnd U o U' L ({ frames := 2, cells := 0, slots := 0, locals := 29 } : Room).cells ({ frames := 2, cells := 0, slots := 0, locals := 29 } : Room).slots) := by
  refine MetFree.of_bodySF (plainFor_of_name pn_java_math_BigDecimal) hisR ?_
  intro p e s m args below meth c s₁ Bd hml0 hP hK
  obtain ⟨rfl, hZ, hh⟩ := hP
  have hx := Bd.exec
  have hby := Bd.bytes
  have hml : c.maxLocals = 4 := hml0
  have hown : s.vm.findClass "java/math/BigDecimal" = some m.cls := findClass_of_methodNamed Bd.named
  have hnm := (name_of_methodNamed Bd.named Bd.method).1
  have X0 : Stand p l e ({ frames := 2, cells := 0, slots := 0, locals := 29 } : Room) s m #[(.long x)] below meth c s₁ [] 0 0 := Stand.of_body Bd
  have e0 : s₁.heap = h0 := by rw [← hh, Bd.state]; rfl
  have N0 := Fr.nil n0
  have pre0 : ∀ t, Steps p.tables e below (s₁.setTop (mkF m 0 #[.val (.long x), .second, .unset, .unset] [])) t → Steps p.tables e below (s₁.setTop (entryFrame m #[(.long x)] 4)) t := fun t k => castTop (ef_rmDl m x) k
  obtain ⟨aT, cT, sT, AT, zT, HT⟩ := J.ten
  have f1 := J.asrt.ext O0.2
  obtain ⟨T2, X2, e2, st2⟩ := getS2 X0 hx hZ hown (host := "") (Or.inl (own_w hw 182 rfl)) Via.refl e0 f1 (g := (mkF m 0 #[.val (.long x), .second, .unset, .unset] [])) rfl (hb hby d40_0)
  have pk3 : ∀ target, Steps p.tables e below (T2.setTop (mkF m 25 #[.val (.long x), .second, .unset, .unset] [(.int (lcmpW x (0 : Int64)))])) target → Steps p.tables e below (s₁.setTop (mkF m 0 #[.val (.long x), .second, .unset, .unset] [])) target := by
    intro target kt
    refine st2 _ ?_
    show Steps p.tables e below (T2.setTop (mkF m 3 #[.val (.long x), .second, .unset, .unset] [(.int (1 : Int32))])) _
    refine XS.ifYes X2.here hx rfl (pc0 := 3) (pc' := 22) rfl (hb hby d40_3) rfl ((if0 _ _).trans (feq (by decide : ¬ ((1 : Int32) = (0 : Int32)))).2) (by decide) (by decide) ?_
    refine XS.lloadN X2.here hx rfl (hb hby d40_22) rfl ?_
    refine XS.lconst X2.here hx rfl (hb hby d40_23) ?_
    refine XS.lcmp X2.here hx rfl (hb hby d40_24) rfl ?_
    exact kt
  by_cases h1 : (lcmpW x (0 : Int64)) < (0 : Int32)
  · have ea : own_abs x = (-x) := by rw [own_abs, if_pos h1]
    have pk4 : ∀ target, Steps p.tables e below (T2.setTop (mkF m 36 #[.val (.long (own_abs x)), .second, .unset, .unset] [(.int (lcmpW (own_abs x) (10 : Int64)))])) target → Steps p.tables e below (s₁.setTop (mkF m 0 #[.val (.long x), .second, .unset, .unset] [])) target := by
      intro target kt
      refine pk3 _ ?_
      show Steps p.tables e below (T2.setTop (mkF m 25 #[.val (.long x), .second, .unset, .unset] [(.int (lcmpW x (0 : Int64)))])) _
      refine XS.ifNo X2.here hx rfl (hb hby d40_25) rfl ((if0 _ _).trans (tlt (h1 : (lcmpW x (0 : Int64)) < (0 : Int32))).2.1) ?_
      refine XS.lloadN X2.here hx rfl (hb hby d40_28) rfl ?_
      refine XS.lneg X2.here hx rfl (hb hby d40_29) rfl ?_
      refine XS.lstoreN X2.here hx rfl (hb hby d40_30) rfl (l' := #[.val (.long (-x)), .second, .unset, .unset]) rfl ?_
      show Steps p.tables e below (T2.setTop (mkF m 31 #[.val (.long (-x)), .second, .unset, .unset] [])) _
      rw [← ea]
      refine XS.lloadN X2.here hx rfl (hb hby d40_31) rfl ?_
      refine X2.ldc2Long hx hown (mvT hZ (own_w hw 213 rfl)) (g := (mkF m 32 #[.val (.long (own_abs x)), .second, .unset, .unset] [(.long (own_abs x))])) rfl (hb hby d40_32) _ ?_
      refine XS.lcmp X2.here hx rfl (hb hby d40_35) rfl ?_
      exact kt
    by_cases h2 : (lcmpW (own_abs x) (10 : Int64)) < (0 : Int32)
    · obtain ⟨fs, hr, hrun, hended, hW, hsame⟩ := X2.leave (v := some (.int (1 : Int32))) (fun h => by rw [Bd.returns] at h; cases h) Bd.notSynchronized
      refine ⟨_, _, pre0 _ ?_, hrun, hended, _, _, rfl, ?_, ⟨_, rfl⟩, hW, hsame.mono (by decide) (by decide)⟩
      · refine pk4 _ ?_
        show Steps p.tables e below (T2.setTop (mkF m 36 #[.val (.long (own_abs x)), .second, .unset, .unset] [(.int (lcmpW (own_abs x) (10 : Int64)))])) _
        refine XS.ifNo X2.here hx rfl (hb hby d40_36) rfl ((if0 _ _).trans (tlt (h2 : (lcmpW (own_abs x) (10 : Int64)) < (0 : Int32))).2.1) ?_
        refine XS.iconst X2.here hx rfl (hb hby d40_39) ?_
        show Steps p.tables e below (T2.setTop (mkF m 40 #[.val (.long (own_abs x)), .second, .unset, .unset] [(.int (1 : Int32))])) _
        exact retI X2 hx Bd.returns (hb hby d40_40) hr
      · show QrmDl Z x  h0 n0 _ T2.heap _
        rw [e2]
        exact ⟨by rw [own_dl, own_dla, if_pos h2], N0, rfl⟩
    · obtain ⟨hd0, hd1⟩ := own_dr_lt hB h2
      obtain ⟨_, _, ⟨T5, L5, k5, n5⟩, -, X5, ⟨Lc5, hQ5, l5, y5, z5⟩, st5⟩ := Jvm.LawKit.callS X2 hx (y := m_22) hown (mvT hZ (own_w hw 214 rfl)) (mvT hZ (own_w hw 215 rfl)) (mvT hZ (own_w hw 169 rfl)) (mvT hZ (own_w hw 216 rfl)) (by decide) (backOf (W := 1) (rmNlzL l Z a0 hw [] (own_abs x)  h0 n0 Z0 ) hZ (own_w hw 216 rfl) (own_w hw 169 rfl) (by decide) (by decide)) (g := (mkF m 44 #[.val (.long (own_abs x)), .second, .unset, .unset] [(.long (own_abs x)), (.int (64 : Int32))])) rfl (by rw [hml]; rfl) (argsL := [(.long (own_abs x))]) (rest := [(.int (64 : Int32))]) (lenOf pd_4 rfl) rfl (by show 2 * 0 + _ ≤ _; exact Nat.le_of_eq rfl) (hb hby d40_44) (fun _ _ => ⟨rfl, e2, (by decide : 0 + 0 ≤ _), (by decide : 0 + 0 ≤ _)⟩)
      dsimp only [Pt.U, Pt.locs, Pt.cells, Pt.slots] at X5 l5 y5 z5 st5 hQ5
      subst y5 z5
      obtain ⟨rfl, N5q, e5⟩ := hQ5
      have N5 : Fr n0 L5 := by rw [l5]; exact Fr.app N0 N5q
      have f6 := sT.ext O0.2
      obtain ⟨T7, X7, e7, st7⟩ := getS2 X5 hx hZ hown (host := "") (Or.inl (own_w hw 98 rfl)) Via.refl e5 f6 (g := (mkF m 58 #[.val (.long (own_abs x)), .second, .val (.int (own_dr (own_abs x))), .unset] [])) rfl (hb hby d40_58)
      have f8 := AT.ext O0.2
      have f9 := AT.ext O0.2
      have pk10 : ∀ target, Steps p.tables e below (T7.setTop (mkF m 73 #[.val (.long (own_abs x)), .second, .val (.int (own_dr (own_abs x))), .val (.ref aT)] [(.int (lcmpW (own_abs x) (own_pw (own_dr (own_abs x)))))])) target → Steps p.tables e below (s₁.setTop (mkF m 0 #[.val (.long x), .second, .unset, .unset] [])) target := by
        intro target kt
        refine pk4 _ ?_
        show Steps p.tables e below (T2.setTop (mkF m 36 #[.val (.long (own_abs x)), .second, .unset, .unset] [(.int (lcmpW (own_abs x) (10 : Int64)))])) _
        refine XS.ifYes X2.here hx rfl (pc0 := 36) (pc' := 41) rfl (hb hby d40_36) rfl ((if0 _ _).trans (flt (h2 : ¬ ((lcmpW (own_abs x) (10 : Int64)) < (0 : Int32)))).2.1) (by decide) (by decide) ?_
        refine XS.bipush X2.here hx rfl (hb hby d40_41) ?_
        refine XS.lloadN X2.here hx rfl (hb hby d40_43) rfl ?_
        refine st5 _ ?_
        refine XS.isub X5.here hx rfl (hb hby d40_47) rfl ?_
        refine XS.iconst X5.here hx rfl (hb hby d40_48) ?_
        refine XS.iadd X5.here hx rfl (hb hby d40_49) rfl ?_
        refine XS.sipush X5.here hx rfl (hb hby d40_50) ?_
        refine XS.imul X5.here hx rfl (hb hby d40_53) rfl ?_
        refine XS.bipush X5.here hx rfl (hb hby d40_54) ?_
        refine XS.iushr X5.here hx rfl (hb hby d40_56) rfl ?_
        refine XS.istoreN X5.here hx rfl (hb hby d40_57) rfl (l' := #[.val (.long (own_abs x)), .second, .val (.int (own_dr (own_abs x))), .unset]) rfl ?_
        refine st7 _ ?_
        refine XS.astoreN X7.here hx rfl (hb hby d40_61) rfl rfl (l' := #[.val (.long (own_abs x)), .second, .val (.int (own_dr (own_abs x))), .val (.ref aT)]) rfl ?_
        refine XS.iloadN X7.here hx rfl (hb hby d40_62) rfl ?_
        refine XS.aloadN X7.here hx rfl (hb hby d40_63) rfl rfl ?_
        refine X7.arraylength hx (cell := cT) (by rw [e7]; exact f8.1) (State.isArrayOf_alike hZ.alike f8.2.1) (g := (mkF m 64 #[.val (.long (own_abs x)), .second, .val (.int (own_dr (own_abs x))), .val (.ref aT)] [(.ref aT), (.int (own_dr (own_abs x)))])) rfl (rest := [(.int (own_dr (own_abs x)))]) rfl (hb hby d40_64) _ ?_
        rw [len_of (zT.trans (by decide) : _ = (19 : Int32).toNatClampNeg) (by decide : ¬ (19 : Int32) < 0)]
        refine XS.icmpNo X7.here hx rfl (hb hby d40_65) rfl (tlt (own_lt19 hd1 : (own_dr (own_abs x)) < (19 : Int32))).2.1 ?_
        refine XS.lloadN X7.here hx rfl (hb hby d40_68) rfl ?_
        refine XS.aloadN X7.here hx rfl (hb hby d40_69) rfl rfl ?_
        refine XS.iloadN X7.here hx rfl (hb hby d40_70) rfl ?_
        refine X7.laload hx (j := (own_dr (own_abs x))) (v := (.long (own_pw (own_dr (own_abs x))))) (by rw [e7]; exact f9.1) (State.isArrayOf_alike hZ.alike f9.2.1) f9.2.2 (own_in zT hd0 hd1) (HT _ (own_cl hd0 hd1)) (g := (mkF m 71 #[.val (.long (own_abs x)), .second, .val (.int (own_dr (own_abs x))), .val (.ref aT)] [(.int (own_dr (own_abs x))), (.ref aT), (.long (own_abs x))])) rfl rfl (hb hby d40_71) _ ?_
        refine XS.lcmp X7.here hx rfl (hb hby d40_72) rfl ?_
        exact kt
      by_cases h3 : (lcmpW (own_abs x) (own_pw (own_dr (own_abs x)))) < (0 : Int32)
      · obtain ⟨fs, hr, hrun, hended, hW, hsame⟩ := X7.leave (v := some (.int (own_dr (own_abs x)))) (fun h => by rw [Bd.returns] at h; cases h) Bd.notSynchronized
        refine ⟨_, _, pre0 _ ?_, hrun, hended, _, _, rfl, ?_, ⟨_, rfl⟩, hW, hsame.mono (by decide) (by decide)⟩
        · refine pk10 _ ?_
          show Steps p.tables e below (T7.setTop (mkF m 73 #[.val (.long (own_abs x)), .second, .val (.int (own_dr (own_abs x))), .val (.ref aT)] [(.int (lcmpW (own_abs x) (own_pw (own_dr (own_abs x)))))])) _
          refine XS.ifNo X7.here hx rfl (hb hby d40_73) rfl ((if0 _ _).trans (tlt (h3 : (lcmpW (own_abs x) (own_pw (own_dr (own_abs x)))) < (0 : Int32))).2.1) ?_
          refine XS.iloadN X7.here hx rfl (hb hby d40_76) rfl ?_
          refine XS.goto X7.here hx rfl (pc0 := 77) (pc' := 83) rfl (hb hby d40_77) (by decide) (by decide) ?_
          show Steps p.tables e below (T7.setTop (mkF m 83 #[.val (.long (own_abs x)), .second, .val (.int (own_dr (own_abs x))), .val (.ref aT)] [(.int (own_dr (own_abs x)))])) _
          exact retI X7 hx Bd.returns (hb hby d40_83) hr
        · show QrmDl Z x  h0 n0 _ T7.heap _
          rw [e7]
          exact ⟨by rw [own_dl, own_dla, if_neg h2, if_pos h3], N5, rfl⟩
      · obtain ⟨fs, hr, hrun, hended, hW, hsame⟩ := X7.leave (v := some (.int ((own_dr (own_abs x)) + (1 : Int32)))) (fun h => by rw [Bd.returns] at h; cases h) Bd.notSynchronized
        refine ⟨_, _, pre0 _ ?_, hrun, hended, _, _, rfl, ?_, ⟨_, rfl⟩, hW, hsame.mono (by decide) (by decide)⟩
        · refine pk10 _ ?_
          show Steps p.tables e below (T7.setTop (mkF m 73 #[.val (.long (own_abs x)), .second, .val (.int (own_dr (own_abs x))), .val (.ref aT)] [(.int (lcmpW (own_abs x) (own_pw (own_dr (own_abs x)))))])) _
          refine XS.ifYes X7.here hx rfl (pc0 := 73) (pc' := 80) rfl (hb hby d40_73) rfl ((if0 _ _).trans (flt (h3 : ¬ ((lcmpW (own_abs x) (own_pw (own_dr (own_abs x)))) < (0 : Int32)))).2.1) (by decide) (by decide) ?_
          refine XS.iloadN X7.here hx rfl (hb hby d40_80) rfl ?_
          refine XS.iconst X7.here hx rfl (hb hby d40_81) ?_
          refine XS.iadd X7.here hx rfl (hb hby d40_82) rfl ?_
          show Steps p.tables e below (T7.setTop (mkF m 83 #[.val (.long (own_abs x)), .second, .val (.int (own_dr (own_abs x))), .val (.ref aT)] [(.int ((own_dr (own_abs x)) + (1 : Int32)))])) _
          exact retI X7 hx Bd.returns (hb hby d40_83) hr
        · show QrmDl Z x  h0 n0 _ T7.heap _
          rw [e7]
          exact ⟨by rw [own_dl, own_dla, if_neg h2, if_neg h3], N5, rfl⟩
  · have ea : own_abs x = x := by rw [own_abs, if_neg h1]
    have pk4 : ∀ target, Steps p.tables e below (T2.setTop (mkF m 36 #[.val (.long (own_abs x)), .second, .unset, .unset] [(.int (lcmpW (own_abs x) (10 : Int64)))])) target → Steps p.tables e below (s₁.setTop (mkF m 0 #[.val (.long x), .second, .unset, .unset] [])) target := by
      intro target kt
      refine pk3 _ ?_
      show Steps p.tables e below (T2.setTop (mkF m 25 #[.val (.long x), .second, .unset, .unset] [(.int (lcmpW x (0 : Int64)))])) _
      refine XS.ifYes X2.here hx rfl (pc0 := 25) (pc' := 31) rfl (hb hby d40_25) rfl ((if0 _ _).trans (flt (h1 : ¬ ((lcmpW x (0 : Int64)) < (0 : Int32)))).2.1) (by decide) (by decide) ?_
      show Steps p.tables e below (T2.setTop (mkF m 31 #[.val (.long x), .second, .unset, .unset] [])) _
      rw [← ea]
      refine XS.lloadN X2.here hx rfl (hb hby d40_31) rfl ?_
      refine X2.ldc2Long hx hown (mvT hZ (own_w hw 213 rfl)) (g := (mkF m 32 #[.val (.long (own_abs x)), .second, .unset, .unset] [(.long (own_abs x))])) rfl (hb hby d40_32) _ ?_
      refine XS.lcmp X2.here hx rfl (hb hby d40_35) rfl ?_
      exact kt
    by_cases h2 : (lcmpW (own_abs x) (10 : Int64)) < (0 : Int32)
    · obtain ⟨fs, hr, hrun, hended, hW, hsame⟩ := X2.leave (v := some (.int (1 : Int32))) (fun h => by rw [Bd.returns] at h; cases h) Bd.notSynchronized
      refine ⟨_, _, pre0 _ ?_, hrun, hended, _, _, rfl, ?_, ⟨_, rfl⟩, hW, hsame.mono (by decide) (by decide)⟩
      · refine pk4 _ ?_
        show Steps p.tables e below (T2.setTop (mkF m 36 #[.val (.long (own_abs x)), .second, .unset, .unset] [(.int (lcmpW (own_abs x) (10 : Int64)))])) _
        refine XS.ifNo X2.here hx rfl (hb hby d40_36) rfl ((if0 _ _).trans (tlt (h2 : (lcmpW (own_abs x) (10 : Int64)) < (0 : Int32))).2.1) ?_
        refine XS.iconst X2.here hx rfl (hb hby d40_39) ?_
        show Steps p.tables e below (T2.setTop (mkF m 40 #[.val (.long (own_abs x)), .second, .unset, .unset] [(.int (1 : Int32))])) _
        exact retI X2 hx Bd.returns (hb hby d40_40) hr
      · show QrmDl Z x  h0 n0 _ T2.heap _
        rw [e2]
        exact ⟨by rw [own_dl, own_dla, if_pos h2], N0, rfl⟩
    · obtain ⟨hd0, hd1⟩ := own_dr_lt hB h2
      obtain ⟨_, _, ⟨T5, L5, k5, n5⟩, -, X5, ⟨Lc5, hQ5, l5, y5, z5⟩, st5⟩ := Jvm.LawKit.callS X2 hx (y := m_22) hown (mvT hZ (own_w hw 214 rfl)) (mvT hZ (own_w hw 215 rfl)) (mvT hZ (own_w hw 169 rfl)) (mvT hZ (own_w hw 216 rfl)) (by decide) (backOf (W := 1) (rmNlzL l Z a0 hw [] (own_abs x)  h0 n0 Z0 ) hZ (own_w hw 216 rfl) (own_w hw 169 rfl) (by decide) (by decide)) (g := (mkF m 44 #[.val (.long (own_abs x)), .second, .unset, .unset] [(.long (own_abs x)), (.int (64 : Int32))])) rfl (by rw [hml]; rfl) (argsL := [(.long (own_abs x))]) (rest := [(.int (64 : Int32))]) (lenOf pd_4 rfl) rfl (by show 2 * 0 + _ ≤ _; exact Nat.le_of_eq rfl) (hb hby d40_44) (fun _ _ => ⟨rfl, e2, (by decide : 0 + 0 ≤ _), (by decide : 0 + 0 ≤ _)⟩)
      dsimp only [Pt.U, Pt.locs, Pt.cells, Pt.slots] at X5 l5 y5 z5 st5 hQ5
      subst y5 z5
      obtain ⟨rfl, N5q, e5⟩ := hQ5
      have N5 : Fr n0 L5 := by rw [l5]; exact Fr.app N0 N5q
      have f6 := sT.ext O0.2
      obtain ⟨T7, X7, e7, st7⟩ := getS2 X5 hx hZ hown (host := "") (Or.inl (own_w hw 98 rfl)) Via.refl e5 f6 (g := (mkF m 58 #[.val (.long (own_abs x)), .second, .val (.int (own_dr (own_abs x))), .unset] [])) rfl (hb hby d40_58)
      have f8 := AT.ext O0.2
      have f9 := AT.ext O0.2
      have pk10 : ∀ target, Steps p.tables e below (T7.setTop (mkF m 73 #[.val (.long (own_abs x)), .second, .val (.int (own_dr (own_abs x))), .val (.ref aT)] [(.int (lcmpW (own_abs x) (own_pw (own_dr (own_abs x)))))])) target → Steps p.tables e below (s₁.setTop (mkF m 0 #[.val (.long x), .second, .unset, .unset] [])) target := by
        intro target kt
        refine pk4 _ ?_
        show Steps p.tables e below (T2.setTop (mkF m 36 #[.val (.long (own_abs x)), .second, .unset, .unset] [(.int (lcmpW (own_abs x) (10 : Int64)))])) _
        refine XS.ifYes X2.here hx rfl (pc0 := 36) (pc' := 41) rfl (hb hby d40_36) rfl ((if0 _ _).trans (flt (h2 : ¬ ((lcmpW (own_abs x) (10 : Int64)) < (0 : Int32)))).2.1) (by decide) (by decide) ?_
        refine XS.bipush X2.here hx rfl (hb hby d40_41) ?_
        refine XS.lloadN X2.here hx rfl (hb hby d40_43) rfl ?_
        refine st5 _ ?_
        refine XS.isub X5.here hx rfl (hb hby d40_47) rfl ?_
        refine XS.iconst X5.here hx rfl (hb hby d40_48) ?_
        refine XS.iadd X5.here hx rfl (hb hby d40_49) rfl ?_
        refine XS.sipush X5.here hx rfl (hb hby d40_50) ?_
        refine XS.imul X5.here hx rfl (hb hby d40_53) rfl ?_
        refine XS.bipush X5.here hx rfl (hb hby d40_54) ?_
        refine XS.iushr X5.here hx rfl (hb hby d40_56) rfl ?_
        refine XS.istoreN X5.here hx rfl (hb hby d40_57) rfl (l' := #[.val (.long (own_abs x)), .second, .val (.int (own_dr (own_abs x))), .unset]) rfl ?_
        refine st7 _ ?_
        refine XS.astoreN X7.here hx rfl (hb hby d40_61) rfl rfl (l' := #[.val (.long (own_abs x)), .second, .val (.int (own_dr (own_abs x))), .val (.ref aT)]) rfl ?_
        refine XS.iloadN X7.here hx rfl (hb hby d40_62) rfl ?_
        refine XS.aloadN X7.here hx rfl (hb hby d40_63) rfl rfl ?_
        refine X7.arraylength hx (cell := cT) (by rw [e7]; exact f8.1) (State.isArrayOf_alike hZ.alike f8.2.1) (g := (mkF m 64 #[.val (.long (own_abs x)), .second, .val (.int (own_dr (own_abs x))), .val (.ref aT)] [(.ref aT), (.int (own_dr (own_abs x)))])) rfl (rest := [(.int (own_dr (own_abs x)))]) rfl (hb hby d40_64) _ ?_
        rw [len_of (zT.trans (by decide) : _ = (19 : Int32).toNatClampNeg) (by decide : ¬ (19 : Int32) < 0)]
        refine XS.icmpNo X7.here hx rfl (hb hby d40_65) rfl (tlt (own_lt19 hd1 : (own_dr (own_abs x)) < (19 : Int32))).2.1 ?_
        refine XS.lloadN X7.here hx rfl (hb hby d40_68) rfl ?_
        refine XS.aloadN X7.here hx rfl (hb hby d40_69) rfl rfl ?_
        refine XS.iloadN X7.here hx rfl (hb hby d40_70) rfl ?_
        refine X7.laload hx (j := (own_dr (own_abs x))) (v := (.long (own_pw (own_dr (own_abs x))))) (by rw [e7]; exact f9.1) (State.isArrayOf_alike hZ.alike f9.2.1) f9.2.2 (own_in zT hd0 hd1) (HT _ (own_cl hd0 hd1)) (g := (mkF m 71 #[.val (.long (own_abs x)), .second, .val (.int (own_dr (own_abs x))), .val (.ref aT)] [(.int (own_dr (own_abs x))), (.ref aT), (.long (own_abs x))])) rfl rfl (hb hby d40_71) _ ?_
        refine XS.lcmp X7.here hx rfl (hb hby d40_72) rfl ?_
        exact kt
      by_cases h3 : (lcmpW (own_abs x) (own_pw (own_dr (own_abs x)))) < (0 : Int32)
      · obtain ⟨fs, hr, hrun, hended, hW, hsame⟩ := X7.leave (v := some (.int (own_dr (own_abs x)))) (fun h => by rw [Bd.returns] at h; cases h) Bd.notSynchronized
        refine ⟨_, _, pre0 _ ?_, hrun, hended, _, _, rfl, ?_, ⟨_, rfl⟩, hW, hsame.mono (by decide) (by decide)⟩
        · refine pk10 _ ?_
          show Steps p.tables e below (T7.setTop (mkF m 73 #[.val (.long (own_abs x)), .second, .val (.int (own_dr (own_abs x))), .val (.ref aT)] [(.int (lcmpW (own_abs x) (own_pw (own_dr (own_abs x)))))])) _
          refine XS.ifNo X7.here hx rfl (hb hby d40_73) rfl ((if0 _ _).trans (tlt (h3 : (lcmpW (own_abs x) (own_pw (own_dr (own_abs x)))) < (0 : Int32))).2.1) ?_
          refine XS.iloadN X7.here hx rfl (hb hby d40_76) rfl ?_
          refine XS.goto X7.here hx rfl (pc0 := 77) (pc' := 83) rfl (hb hby d40_77) (by decide) (by decide) ?_
          show Steps p.tables e below (T7.setTop (mkF m 83 #[.val (.long (own_abs x)), .second, .val (.int (own_dr (own_abs x))), .val (.ref aT)] [(.int (own_dr (own_abs x)))])) _
          exact retI X7 hx Bd.returns (hb hby d40_83) hr
        · show QrmDl Z x  h0 n0 _ T7.heap _
          rw [e7]
          exact ⟨by rw [own_dl, own_dla, if_neg h2, if_pos h3], N5, rfl⟩
      · obtain ⟨fs, hr, hrun, hended, hW, hsame⟩ := X7.leave (v := some (.int ((own_dr (own_abs x)) + (1 : Int32)))) (fun h => by rw [Bd.returns] at h; cases h) Bd.notSynchronized
        refine ⟨_, _, pre0 _ ?_, hrun, hended, _, _, rfl, ?_, ⟨_, rfl⟩, hW, hsame.mono (by decide) (by decide)⟩
        · refine pk10 _ ?_
          show Steps p.tables e below (T7.setTop (mkF m 73 #[.val (.long (own_abs x)), .second, .val (.int (own_dr (own_abs x))), .val (.ref aT)] [(.int (lcmpW (own_abs x) (own_pw (own_dr (own_abs x)))))])) _
          refine XS.ifYes X7.here hx rfl (pc0 := 73) (pc' := 80) rfl (hb hby d40_73) rfl ((if0 _ _).trans (flt (h3 : ¬ ((lcmpW (own_abs x) (own_pw (own_dr (own_abs x)))) < (0 : Int32)))).2.1) (by decide) (by decide) ?_
          refine XS.iloadN X7.here hx rfl (hb hby d40_80) rfl ?_
          refine XS.iconst X7.here hx rfl (hb hby d40_81) ?_
          refine XS.iadd X7.here hx rfl (hb hby d40_82) rfl ?_
          show Steps p.tables e below (T7.setTop (mkF m 83 #[.val (.long (own_abs x)), .second, .val (.int (own_dr (own_abs x))), .val (.ref aT)] [(.int ((own_dr (own_abs x)) + (1 : Int32)))])) _
          exact retI X7 hx Bd.returns (hb hby d40_83) hr
        · show QrmDl Z x  h0 n0 _ T7.heap _
          rw [e7]
          exact ⟨by rw [own_dl, own_dla, if_neg h2, if_neg h3], N5, rfl⟩
def own_PS (Z : State) (h : Heap) (n0 : Nat) (b : Addr) (ic : Int64) : Prop := (n0 ≤ b ∧ own_PR Z h b 0) ∨ ∃ pr : Int32, ¬ (pr = 0) ∧ pr = own_dl ic ∧ own_PR Z h b pr
theorem own_BD.ext {Z : State} {h h' : Heap} {b : Addr} {sc : Int32} {ic : Int64} (B : own_BD Z h b sc ic) (E : Ext h h') : own_BD Z h' b sc ic := ⟨B.1.ext E, B.2.1.ext E, B.2.2.ext E⟩
theorem own_BD.keep {Z : State} {h h' : Heap} {b : Addr} {sc : Int32} {ic : Int64} {ws : List Addr} (B : own_BD Z h b sc ic) (K : Keep h h' ws) (q : b ∉ ws) : own_BD Z h' b sc ic := ⟨B.1.keep K, B.2.1.keep K q, B.2.2.keep K q⟩
theorem own_PS.keep {Z : State} {h h' : Heap} {n0 : Nat} {b : Addr} {ic : Int64} {ws : List Addr} (P : own_PS Z h n0 b ic) (K : Keep h h' ws) (q : b ∉ ws) : own_PS Z h' n0 b ic :=
  P.elim (fun p => Or.inl ⟨p.1, Fld.keep p.2 K q⟩) fun ⟨pr, p1, p2, p3⟩ => Or.inr ⟨pr, p1, p2, Fld.keep p3 K q⟩
theorem own_hm {x : Int64} (h : own_HB x) : ¬ (lcmpW x (-9223372036854775808 : Int64) = (0 : Int32)) := fun q => by
  have e := (lw_eq _ _).mp q
  have k : (-9223372036854775808 : Int64).toInt = -9223372036854775808 := by decide
  have h1 := h.1
  rw [e] at h1
  omega
theorem d39_0 : decode c_17 0 = .ok (.aload_n 0, 1) := by decide +kernel
theorem d39_1 : decode c_17 1 = .ok (.getfield 21, 3) := by decide +kernel
theorem d39_4 : decode c_17 4 = .ok (.istore_n 1, 1) := by decide +kernel
theorem d39_5 : decode c_17 5 = .ok (.iload_n 1, 1) := by decide +kernel
theorem d39_6 : decode c_17 6 = .ok (.ifCond .ne 37, 3) := by decide +kernel
theorem d39_9 : decode c_17 9 = .ok (.aload_n 0, 1) := by decide +kernel
theorem d39_10 : decode c_17 10 = .ok (.getfield 24, 3) := by decide +kernel
theorem d39_13 : decode c_17 13 = .ok (.lstore_n 2, 1) := by decide +kernel
theorem d39_14 : decode c_17 14 = .ok (.lload_n 2, 1) := by decide +kernel
theorem d39_15 : decode c_17 15 = .ok (.ldc2_w 125, 3) := by decide +kernel
theorem d39_18 : decode c_17 18 = .ok (.lcmp, 1) := by decide +kernel
theorem d39_19 : decode c_17 19 = .ok (.ifCond .eq 11, 3) := by decide +kernel
theorem d39_22 : decode c_17 22 = .ok (.lload_n 2, 1) := by decide +kernel
theorem d39_23 : decode c_17 23 = .ok (.invokestatic 112, 3) := by decide +kernel
theorem d39_26 : decode c_17 26 = .ok (.istore_n 1, 1) := by decide +kernel
theorem d39_27 : decode c_17 27 = .ok (.goto 11, 3) := by decide +kernel
theorem d39_38 : decode c_17 38 = .ok (.aload_n 0, 1) := by decide +kernel
theorem d39_39 : decode c_17 39 = .ok (.iload_n 1, 1) := by decide +kernel
theorem d39_40 : decode c_17 40 = .ok (.putfield 21, 3) := by decide +kernel
theorem d39_43 : decode c_17 43 = .ok (.iload_n 1, 1) := by decide +kernel
theorem d39_44 : decode c_17 44 = .ok (.ireturn, 1) := by decide +kernel
theorem ef_rmPr (m : MethodId) (x0 : Addr) : entryFrame m #[(.ref x0)] 4 = mkF m 0 #[.val (.ref x0), .unset, .unset, .unset] [] := by first | (simp [entryFrame, mkF, argsToLocals, Value.category]; done) | rfl
def QrmPr (Z : State) (a1 : Addr) (sc : Int32) (ic : Int64) (h0 : Heap) (n0 : Nat) (v : Option Value) (h : Heap) (L : List Loc) : Prop := v = some (.int (own_dl ic)) ∧ Fr n0 L ∧ ∃ ws, Keep h0 h ws ∧ (∀ x ∈ ws, x = a1 ∧ n0 ≤ x) ∧ own_BD Z h a1 sc ic
theorem rmPr (l : Launch) (Z : State) (a0 : Array Value) (hw : ∀ d ∈ tables_1, d.before a0 Z = true) (ws : List Jvm.Cond) (a1 : Addr) (sc : Int32) (ic : Int64) (h0 : Heap) (n0 : Nat) (Z0 : n0 ≤ h0.size) (J : own_J Z) (O0 : Old Z n0 h0) (B : own_BD Z h0 a1 sc ic) (hP : own_PS Z h0 n0 a1 ic) (hB : own_HB ic) :
    MetFree l m_10 (head1 (Jvm.Cond.code m_10 jdk_17_method_60_code 4 (some .int) :: ws) ({ frames := 3, cells := 0, slots := 0, locals := 44 } : Room)) (fun a U => a = #[(.ref a1)] ∧ Z.Warmed39 U.vm ∧ U.heap = h0) (fun _ _ _ _ _ => True) (fun _ U o U' => ∃ v L, o = .returned v ∧ QrmPr Z a1 sc ic h0 n0 v U'.heap L ∧ FrameEnd U o U' L ({ frames := 3, cells := 0, slots := 0, locals := 44 } : Room).cells ({ frames := 3, cells := 0, slots := 0, locals := 44 } : Room).slots) := by
  refine MetFree.of_bodySF (plainFor_of_name pn_java_math_BigDecimal) hisR ?_
  intro p e s m args below meth c s₁ Bd hml0 hP hK
  obtain ⟨rfl, hZ, hh⟩ := hP
  have hx := Bd.exec
  have hby := Bd.bytes
  have hml : c.maxLocals = 4 := hml0
  have hown : s.vm.findClass "java/math/BigDecimal" = some m.cls := findClass_of_methodNamed Bd.named
  have hnm := (name_of_methodNamed Bd.named Bd.method).1
  have X0 : Stand p l e ({ frames := 3, cells := 0, slots := 0, locals := 44 } : Room) s m #[(.ref a1)] below meth c s₁ [] 0 0 := Stand.of_body Bd
  have e0 : s₁.heap = h0 := by rw [← hh, Bd.state]; rfl
  have N0 := Fr.nil n0
  have pre0 : ∀ t, Steps p.tables e below (s₁.setTop (mkF m 0 #[.val (.ref a1), .unset, .unset, .unset] [])) t → Steps p.tables e below (s₁.setTop (entryFrame m #[(.ref a1)] 4)) t := fun t k => castTop (ef_rmPr m a1) k
  rcases hP with ⟨g_a1, hP0⟩ | ⟨pr, hp0, hp1, hP1⟩
  · obtain ⟨T1, X1, e1, st1⟩ := getF X0 hx hZ hown (host := "") (Or.inl (own_w hw 33 rfl)) Via.refl e0 hP0 (g := (mkF m 1 #[.val (.ref a1), .unset, .unset, .unset] [(.ref a1)])) rfl rfl (hb hby d39_1)
    obtain ⟨T2, X2, e2, st2⟩ := getF X1 hx hZ hown (host := "") (Or.inl (own_w hw 35 rfl)) Via.refl e1 B.2.2 (g := (mkF m 10 #[.val (.ref a1), .val (.int (0 : Int32)), .unset, .unset] [(.ref a1)])) rfl rfl (hb hby d39_10)
    obtain ⟨_, _, ⟨T3, L3, k3, n3⟩, -, X3, ⟨Lc3, hQ3, l3, y3, z3⟩, st3⟩ := Jvm.LawKit.callS X2 hx (y := m_35) hown (mvT hZ (own_w hw 210 rfl)) (mvT hZ (own_w hw 211 rfl)) (mvT hZ (own_w hw 9 rfl)) (mvT hZ (own_w hw 212 rfl)) (by decide) (backOf (W := 0) (rmDl l Z a0 hw [] ic  h0 n0 Z0 J O0 hB) hZ (own_w hw 212 rfl) (own_w hw 9 rfl) (by decide) (by decide)) (g := (mkF m 23 #[.val (.ref a1), .val (.int (0 : Int32)), .val (.long ic), .second] [(.long ic)])) rfl (by rw [hml]; rfl) (argsL := [(.long ic)]) (rest := []) (lenOf pd_4 rfl) rfl (by show 2 * 0 + _ ≤ _; exact Nat.le_of_eq rfl) (hb hby d39_23) (fun _ _ => ⟨rfl, e2, (by decide : 0 + 0 ≤ _), (by decide : 0 + 0 ≤ _)⟩)
    dsimp only [Pt.U, Pt.locs, Pt.cells, Pt.slots] at X3 l3 y3 z3 st3 hQ3
    subst y3 z3
    obtain ⟨rfl, N3q, e3⟩ := hQ3
    have N3 : Fr n0 L3 := by rw [l3]; exact Fr.app N0 N3q
    obtain ⟨T4, h4, X4, e4, W4, st4⟩ := putF X3 hx hZ hown (host := "") (Or.inl (own_w hw 33 rfl)) Via.refl e3 hP0 B.1 (Or.inl (own_w hw 34 rfl)) (own_w hw 16 rfl) (ty := .int) (by decide) rfl rfl (g := (mkF m 40 #[.val (.ref a1), .val (.int (own_dl ic)), .val (.long ic), .second] [(.int (own_dl ic)), (.ref a1)])) rfl rfl (hb hby d39_40)
    have Z5 : n0 ≤ h4.size := Nat.le_trans Z0 (Keep.of_wr W4).1
    have Fw4 := hP0.same W4
    have N4 := Fr.snoc X4 N3 g_a1
    have f6 := B.1.wr W4
    have f7 := B.2.1.other W4 (Or.inr (slot_ne (Or.inr (own_w hw 32 rfl)) (Or.inl (own_w hw 34 rfl)) (by decide) (t := .int) (t' := .int) (by decide) (by decide)))
    have f8 := B.2.2.other W4 (Or.inr (slot_ne (Or.inr (own_w hw 36 rfl)) (Or.inl (own_w hw 34 rfl)) (by decide) (t := .long) (t' := .int) (by decide) (by decide)))
    obtain ⟨fs, hr, hrun, hended, hW, hsame⟩ := X4.leave (v := some (.int (own_dl ic))) (fun h => by rw [Bd.returns] at h; cases h) Bd.notSynchronized
    refine ⟨_, _, pre0 _ ?_, hrun, hended, _, _, rfl, ?_, ⟨_, rfl⟩, hW, hsame.mono (by decide) (by decide)⟩
    · show Steps p.tables e below (s₁.setTop (mkF m 0 #[.val (.ref a1), .unset, .unset, .unset] [])) _
      refine XS.aloadN X0.here hx rfl (hb hby d39_0) rfl rfl ?_
      refine st1 _ ?_
      refine XS.istoreN X1.here hx rfl (hb hby d39_4) rfl (l' := #[.val (.ref a1), .val (.int (0 : Int32)), .unset, .unset]) rfl ?_
      refine XS.iloadN X1.here hx rfl (hb hby d39_5) rfl ?_
      refine XS.ifNo X1.here hx rfl (hb hby d39_6) rfl ((if0 _ _).trans (teq (rfl : (0 : Int32) = (0 : Int32))).2) ?_
      refine XS.aloadN X1.here hx rfl (hb hby d39_9) rfl rfl ?_
      refine st2 _ ?_
      refine XS.lstoreN X2.here hx rfl (hb hby d39_13) rfl (l' := #[.val (.ref a1), .val (.int (0 : Int32)), .val (.long ic), .second]) rfl ?_
      refine XS.lloadN X2.here hx rfl (hb hby d39_14) rfl ?_
      refine X2.ldc2Long hx hown (mvT hZ (own_w hw 17 rfl)) (g := (mkF m 15 #[.val (.ref a1), .val (.int (0 : Int32)), .val (.long ic), .second] [(.long ic)])) rfl (hb hby d39_15) _ ?_
      refine XS.lcmp X2.here hx rfl (hb hby d39_18) rfl ?_
      refine XS.ifNo X2.here hx rfl (hb hby d39_19) rfl ((if0 _ _).trans (feq (own_hm hB : ¬ ((lcmpW ic (-9223372036854775808 : Int64)) = (0 : Int32)))).1) ?_
      refine XS.lloadN X2.here hx rfl (hb hby d39_22) rfl ?_
      refine st3 _ ?_
      refine XS.istoreN X3.here hx rfl (hb hby d39_26) rfl (l' := #[.val (.ref a1), .val (.int (own_dl ic)), .val (.long ic), .second]) rfl ?_
      refine XS.goto X3.here hx rfl (pc0 := 27) (pc' := 38) rfl (hb hby d39_27) (by decide) (by decide) ?_
      refine XS.aloadN X3.here hx rfl (hb hby d39_38) rfl rfl ?_
      refine XS.iloadN X3.here hx rfl (hb hby d39_39) rfl ?_
      refine st4 _ ?_
      refine XS.iloadN X4.here hx rfl (hb hby d39_43) rfl ?_
      show Steps p.tables e below (T4.setTop (mkF m 44 #[.val (.ref a1), .val (.int (own_dl ic)), .val (.long ic), .second] [(.int (own_dl ic))])) _
      exact retI X4 hx Bd.returns (hb hby d39_44) hr
    · show QrmPr Z a1 sc ic h0 n0 _ T4.heap _
      rw [e4]
      exact ⟨rfl, N4, ⟨_, ((Keep.refl h0 [a1]).wr W4 (Or.inl (List.mem_of_getElem? (i := 0) rfl))), fun x hx => by cases List.mem_singleton.mp hx; exact ⟨rfl, g_a1⟩, f6, f7, f8⟩⟩
  · obtain ⟨T1, X1, e1, st1⟩ := getF X0 hx hZ hown (host := "") (Or.inl (own_w hw 33 rfl)) Via.refl e0 hP1 (g := (mkF m 1 #[.val (.ref a1), .unset, .unset, .unset] [(.ref a1)])) rfl rfl (hb hby d39_1)
    obtain ⟨fs, hr, hrun, hended, hW, hsame⟩ := X1.leave (v := some (.int pr)) (fun h => by rw [Bd.returns] at h; cases h) Bd.notSynchronized
    refine ⟨_, _, pre0 _ ?_, hrun, hended, _, _, rfl, ?_, ⟨_, rfl⟩, hW, hsame.mono (by decide) (by decide)⟩
    · show Steps p.tables e below (s₁.setTop (mkF m 0 #[.val (.ref a1), .unset, .unset, .unset] [])) _
      refine XS.aloadN X0.here hx rfl (hb hby d39_0) rfl rfl ?_
      refine st1 _ ?_
      refine XS.istoreN X1.here hx rfl (hb hby d39_4) rfl (l' := #[.val (.ref a1), .val (.int pr), .unset, .unset]) rfl ?_
      refine XS.iloadN X1.here hx rfl (hb hby d39_5) rfl ?_
      refine XS.ifYes X1.here hx rfl (pc0 := 6) (pc' := 43) rfl (hb hby d39_6) rfl ((if0 _ _).trans (feq (hp0 : ¬ (pr = (0 : Int32)))).2) (by decide) (by decide) ?_
      refine XS.iloadN X1.here hx rfl (hb hby d39_43) rfl ?_
      show Steps p.tables e below (T1.setTop (mkF m 44 #[.val (.ref a1), .val (.int pr), .unset, .unset] [(.int pr)])) _
      exact retI X1 hx Bd.returns (hb hby d39_44) hr
    · show QrmPr Z a1 sc ic h0 n0 _ T1.heap _
      rw [e1]
      exact ⟨by rw [hp1], N0, ⟨[], Keep.refl _ _, all0, B⟩⟩
theorem d5_0 : decode c_24 0 = .ok (.aload_n 0, 1) := by decide +kernel
theorem d5_1 : decode c_24 1 = .ok (.invokespecial 1, 3) := by decide +kernel
theorem d5_4 : decode c_24 4 = .ok (.return_, 1) := by decide +kernel
theorem pn_java_lang_Number : plainName "java/lang/Number" = true := by first | (simp [plainName, overriddenIn]; done) | decide +kernel
theorem ef_rmNum (m : MethodId) (x0 : Addr) : entryFrame m #[(.ref x0)] 1 = mkF m 0 #[.val (.ref x0)] [] := by first | (simp [entryFrame, mkF, argsToLocals, Value.category]; done) | rfl
def QrmNum (Z : State) (a1 : Addr)  (h0 : Heap) (n0 : Nat) (v : Option Value) (h : Heap) (L : List Loc) : Prop := v = none ∧ Fr n0 L ∧ h = h0
theorem rmNum (l : Launch) (Z : State) (a0 : Array Value) (hw : ∀ d ∈ tables_1, d.before a0 Z = true) (ws : List Jvm.Cond) (a1 : Addr)  (h0 : Heap) (n0 : Nat) (Z0 : n0 ≤ h0.size)  :
    MetFree l m_25 (head1 (Jvm.Cond.code m_25 jdk_18_method_1_code 1 none :: ws) ({ frames := 1, cells := 0, slots := 0, locals := 12 } : Room)) (fun a U => a = #[(.ref a1)] ∧ Z.Warmed39 U.vm ∧ U.heap = h0) (fun _ _ _ _ _ => True) (fun _ U o U' => ∃ v L, o = .returned v ∧ QrmNum Z a1  h0 n0 v U'.heap L ∧ FrameEnd U o U' L ({ frames := 1, cells := 0, slots := 0, locals := 12 } : Room).cells ({ frames := 1, cells := 0, slots := 0, locals := 12 } : Room).slots) := by
  refine MetFree.of_bodySF (plainFor_of_name pn_java_lang_Number) hisR ?_
  intro p e s m args below meth c s₁ Bd hml0 hP hK
  obtain ⟨rfl, hZ, hh⟩ := hP
  have hx := Bd.exec
  have hby := Bd.bytes
  have hml : c.maxLocals = 1 := hml0
  have hown : s.vm.findClass "java/lang/Number" = some m.cls := findClass_of_methodNamed Bd.named
  have hnm := (name_of_methodNamed Bd.named Bd.method).1
  have X0 : Stand p l e ({ frames := 1, cells := 0, slots := 0, locals := 12 } : Room) s m #[(.ref a1)] below meth c s₁ [] 0 0 := Stand.of_body Bd
  have e0 : s₁.heap = h0 := by rw [← hh, Bd.state]; rfl
  have N0 := Fr.nil n0
  have pre0 : ∀ t, Steps p.tables e below (s₁.setTop (mkF m 0 #[.val (.ref a1)] [])) t → Steps p.tables e below (s₁.setTop (entryFrame m #[(.ref a1)] 1)) t := fun t k => castTop (ef_rmNum m a1) k
  obtain ⟨T1, X1, e1, st1⟩ := initO X0 hx hZ hown (own_w hw 28 rfl) (own_w hw 29 rfl) (own_w hw 30 rfl) e0 (g := (mkF m 1 #[.val (.ref a1)] [(.ref a1)])) rfl (by rw [hml]; rfl) rfl (hb hby d5_1) (by decide) (W := 0) (by show 2 * 0 + _ ≤ _; exact Nat.le_of_eq rfl) (by decide)
  obtain ⟨fs, hr, hrun, hended, hW, hsame⟩ := X1.leave (v := none) (fun _ => rfl) Bd.notSynchronized
  refine ⟨_, _, pre0 _ ?_, hrun, hended, _, _, rfl, ?_, ⟨_, rfl⟩, hW, hsame.mono (by decide) (by decide)⟩
  · show Steps p.tables e below (s₁.setTop (mkF m 0 #[.val (.ref a1)] [])) _
    refine XS.aloadN X0.here hx rfl (hb hby d5_0) rfl rfl ?_
    refine st1 _ ?_
    show Steps p.tables e below (T1.setTop (mkF m 4 #[.val (.ref a1)] [])) _
    exact X1.returnOut hx Bd.returns (hb hby d5_4) hr
  · show QrmNum Z a1  h0 n0 _ T1.heap _
    rw [e1]
    exact ⟨rfl, N0, rfl⟩
theorem d4_0 : decode c_10 0 = .ok (.aload_n 0, 1) := by decide +kernel
theorem d4_1 : decode c_10 1 = .ok (.invokespecial 11, 3) := by decide +kernel
theorem pd_5 : parseMethodDescriptor "()V" = some ⟨[], none⟩ := by decide +kernel
theorem d4_4 : decode c_10 4 = .ok (.aload_n 0, 1) := by decide +kernel
theorem d4_5 : decode c_10 5 = .ok (.iload 4, 2) := by decide +kernel
theorem d4_7 : decode c_10 7 = .ok (.putfield 17, 3) := by decide +kernel
theorem d4_10 : decode c_10 10 = .ok (.aload_n 0, 1) := by decide +kernel
theorem d4_11 : decode c_10 11 = .ok (.iload 5, 2) := by decide +kernel
theorem d4_13 : decode c_10 13 = .ok (.putfield 21, 3) := by decide +kernel
theorem d4_16 : decode c_10 16 = .ok (.aload_n 0, 1) := by decide +kernel
theorem d4_17 : decode c_10 17 = .ok (.lload_n 2, 1) := by decide +kernel
theorem d4_18 : decode c_10 18 = .ok (.putfield 24, 3) := by decide +kernel
theorem d4_21 : decode c_10 21 = .ok (.aload_n 0, 1) := by decide +kernel
theorem d4_22 : decode c_10 22 = .ok (.aload_n 1, 1) := by decide +kernel
theorem d4_23 : decode c_10 23 = .ok (.putfield 28, 3) := by decide +kernel
theorem d4_26 : decode c_10 26 = .ok (.return_, 1) := by decide +kernel
theorem ef_rmInN (m : MethodId) (x0 : Addr) (x2 : Int64) (x3 : Int32) (x4 : Int32) : entryFrame m #[(.ref x0), .null, (.long x2), (.int x3), (.int x4)] 6 = mkF m 0 #[.val (.ref x0), .val .null, .val (.long x2), .second, .val (.int x3), .val (.int x4)] [] := by first | (simp [entryFrame, mkF, argsToLocals, Value.category]; done) | rfl
def QrmInN (Z : State) (a1 : Addr) (x : Int64) (sc : Int32) (pr : Int32)  (h0 : Heap) (n0 : Nat) (v : Option Value) (h : Heap) (L : List Loc) : Prop := v = none ∧ Fr n0 L ∧ Keep h0 h [a1] ∧ own_BD Z h a1 sc x ∧ own_PR Z h a1 pr
theorem rmInN (l : Launch) (Z : State) (a0 : Array Value) (hw : ∀ d ∈ tables_1, d.before a0 Z = true) (ws : List Jvm.Cond) (a1 : Addr) (x : Int64) (sc : Int32) (pr : Int32)  (h0 : Heap) (n0 : Nat) (Z0 : n0 ≤ h0.size) (E_a1 : Exa Z h0 a1 "java/math/BigDecimal") (g_a1 : n0 ≤ a1) (F_scale : Fld Z h0 a1 "java/math/BigDecimal" "scale" "I" (.int (0 : Int32))) (F_precision : Fld Z h0 a1 "java/math/BigDecimal" "precision" "I" (.int (0 : Int32))) (F_intCompact : Fld Z h0 a1 "java/math/BigDecimal" "intCompact" "J" (.long (0 : Int64))) (F_intVal : Fld Z h0 a1 "java/math/BigDecimal" "intVal" "Ljava/math/BigInteger;" .null) :
    MetFree l m_6 (head1 (Jvm.Cond.code m_6 jdk_17_method_1_code 6 none :: ws) ({ frames := 2, cells := 0, slots := 0, locals := 24 } : Room)) (fun a U => a = #[(.ref a1), .null, (.long x), (.int sc), (.int pr)] ∧ Z.Warmed39 U.vm ∧ U.heap = h0) (fun _ _ _ _ _ => True) (fun _ U o U' => ∃ v L, o = .returned v ∧ QrmInN Z a1 x sc pr  h0 n0 v U'.heap L ∧ FrameEnd U o U' L ({ frames := 2, cells := 0, slots := 0, locals := 24 } : Room).cells ({ frames := 2, cells := 0, slots := 0, locals := 24 } : Room).slots) := by
  refine MetFree.of_bodySF (plainFor_of_name pn_java_math_BigDecimal) hisR ?_
  intro p e s m args below meth c s₁ Bd hml0 hP hK
  obtain ⟨rfl, hZ, hh⟩ := hP
  have hx := Bd.exec
  have hby := Bd.bytes
  have hml : c.maxLocals = 6 := hml0
  have hown : s.vm.findClass "java/math/BigDecimal" = some m.cls := findClass_of_methodNamed Bd.named
  have hnm := (name_of_methodNamed Bd.named Bd.method).1
  have X0 : Stand p l e ({ frames := 2, cells := 0, slots := 0, locals := 24 } : Room) s m #[(.ref a1), .null, (.long x), (.int sc), (.int pr)] below meth c s₁ [] 0 0 := Stand.of_body Bd
  have e0 : s₁.heap = h0 := by rw [← hh, Bd.state]; rfl
  have N0 := Fr.nil n0
  have pre0 : ∀ t, Steps p.tables e below (s₁.setTop (mkF m 0 #[.val (.ref a1), .val .null, .val (.long x), .second, .val (.int sc), .val (.int pr)] [])) t → Steps p.tables e below (s₁.setTop (entryFrame m #[(.ref a1), .null, (.long x), (.int sc), (.int pr)] 6)) t := fun t k => castTop (ef_rmInN m a1 x sc pr) k
  obtain ⟨_, _, ⟨T1, L1, k1, n1⟩, -, X1, ⟨Lc1, hQ1, l1, y1, z1⟩, st1⟩ := X0.specialBack hx (y := m_25) rfl hown (mvT hZ (own_w hw 22 rfl)) (mvT hZ (own_w hw 23 rfl)) (mvT hZ (own_w hw 27 rfl)) (by decide) (backOf (W := 0) (rmNum l Z a0 hw [] a1  h0 n0 Z0 ) hZ (own_w hw 27 rfl) (own_w hw 26 rfl) (by decide) (by decide)) (g := (mkF m 1 #[.val (.ref a1), .val .null, .val (.long x), .second, .val (.int sc), .val (.int pr)] [(.ref a1)])) rfl (by rw [hml]; rfl) (Steps.refl _) (a := a1) (argsL := []) (rest := []) (lenOf pd_5 rfl) rfl (by show 2 * 0 + _ ≤ _; exact Nat.le_of_eq rfl) (hb hby d4_1) (fun _ _ => ⟨rfl, e0, (by decide : 0 + 0 ≤ _), (by decide : 0 + 0 ≤ _)⟩)
  dsimp only [Pt.U, Pt.locs, Pt.cells, Pt.slots] at X1 l1 y1 z1 st1 hQ1
  subst y1 z1
  obtain ⟨rfl, N1q, e1⟩ := hQ1
  have N1 : Fr n0 L1 := by rw [l1]; exact Fr.app N0 N1q
  obtain ⟨T2, h2, X2, e2, W2, st2⟩ := putF X1 hx hZ hown (host := "") (Or.inl (own_w hw 31 rfl)) Via.refl e1 F_scale E_a1 (Or.inr ⟨(own_w hw 32 rfl), rfl, hnm⟩) (own_w hw 16 rfl) (ty := .int) (by decide) rfl rfl (g := (mkF m 7 #[.val (.ref a1), .val .null, .val (.long x), .second, .val (.int sc), .val (.int pr)] [(.int sc), (.ref a1)])) rfl rfl (hb hby d4_7)
  have Z3 : n0 ≤ h2.size := Nat.le_trans Z0 (Keep.of_wr W2).1
  have Fw2 := F_scale.same W2
  have N2 := Fr.snoc X2 N1 g_a1
  have f4 := F_precision.other W2 (Or.inr (slot_ne (Or.inl (own_w hw 34 rfl)) (Or.inr (own_w hw 32 rfl)) (by decide) (t := .int) (t' := .int) (by decide) (by decide)))
  have f5 := E_a1.wr W2
  obtain ⟨T6, h6, X6, e6, W6, st6⟩ := putF X2 hx hZ hown (host := "") (Or.inl (own_w hw 33 rfl)) Via.refl e2 f4 f5 (Or.inl (own_w hw 34 rfl)) (own_w hw 16 rfl) (ty := .int) (by decide) rfl rfl (g := (mkF m 13 #[.val (.ref a1), .val .null, .val (.long x), .second, .val (.int sc), .val (.int pr)] [(.int pr), (.ref a1)])) rfl rfl (hb hby d4_13)
  have Z7 : n0 ≤ h6.size := Nat.le_trans Z3 (Keep.of_wr W6).1
  have Fw6 := f4.same W6
  have N6 := Fr.snoc X6 N2 g_a1
  have f8 := F_intCompact.other W2 (Or.inr (slot_ne (Or.inr (own_w hw 36 rfl)) (Or.inr (own_w hw 32 rfl)) (by decide) (t := .long) (t' := .int) (by decide) (by decide)))
  have f9 := f8.other W6 (Or.inr (slot_ne (Or.inr (own_w hw 36 rfl)) (Or.inl (own_w hw 34 rfl)) (by decide) (t := .long) (t' := .int) (by decide) (by decide)))
  have f10 := f5.wr W6
  obtain ⟨T11, h11, X11, e11, W11, st11⟩ := putF X6 hx hZ hown (host := "") (Or.inl (own_w hw 35 rfl)) Via.refl e6 f9 f10 (Or.inr ⟨(own_w hw 36 rfl), rfl, hnm⟩) (own_w hw 16 rfl) (ty := .long) (by decide) rfl rfl (g := (mkF m 18 #[.val (.ref a1), .val .null, .val (.long x), .second, .val (.int sc), .val (.int pr)] [(.long x), (.ref a1)])) rfl rfl (hb hby d4_18)
  have Z12 : n0 ≤ h11.size := Nat.le_trans Z7 (Keep.of_wr W11).1
  have Fw11 := f9.same W11
  have N11 := Fr.snoc X11 N6 g_a1
  have f13 := F_intVal.other W2 (Or.inr (slot_ne (Or.inr (own_w hw 38 rfl)) (Or.inr (own_w hw 32 rfl)) (by decide) (t := (.object "java/math/BigInteger")) (t' := .int) (by decide) (by decide)))
  have f14 := f13.other W6 (Or.inr (slot_ne (Or.inr (own_w hw 38 rfl)) (Or.inl (own_w hw 34 rfl)) (by decide) (t := (.object "java/math/BigInteger")) (t' := .int) (by decide) (by decide)))
  have f15 := f14.other W11 (Or.inr (slot_ne (Or.inr (own_w hw 38 rfl)) (Or.inr (own_w hw 36 rfl)) (by decide) (t := (.object "java/math/BigInteger")) (t' := .long) (by decide) (by decide)))
  have f16 := f10.wr W11
  obtain ⟨T17, h17, X17, e17, W17, st17⟩ := putF X11 hx hZ hown (host := "") (Or.inl (own_w hw 37 rfl)) Via.refl e11 f15 f16 (Or.inr ⟨(own_w hw 38 rfl), rfl, hnm⟩) (own_w hw 16 rfl) (ty := (.object "java/math/BigInteger")) (by decide) rfl rfl (g := (mkF m 23 #[.val (.ref a1), .val .null, .val (.long x), .second, .val (.int sc), .val (.int pr)] [.null, (.ref a1)])) rfl rfl (hb hby d4_23)
  have Z18 : n0 ≤ h17.size := Nat.le_trans Z12 (Keep.of_wr W17).1
  have Fw17 := f15.same W17
  have N17 := Fr.snoc X17 N11 g_a1
  have f19 := f16.wr W17
  have f20 := Fw2.other W6 (Or.inr (slot_ne (Or.inr (own_w hw 32 rfl)) (Or.inl (own_w hw 34 rfl)) (by decide) (t := .int) (t' := .int) (by decide) (by decide)))
  have f21 := f20.other W11 (Or.inr (slot_ne (Or.inr (own_w hw 32 rfl)) (Or.inr (own_w hw 36 rfl)) (by decide) (t := .int) (t' := .long) (by decide) (by decide)))
  have f22 := f21.other W17 (Or.inr (slot_ne (Or.inr (own_w hw 32 rfl)) (Or.inr (own_w hw 38 rfl)) (by decide) (t := .int) (t' := (.object "java/math/BigInteger")) (by decide) (by decide)))
  have f23 := Fw11.other W17 (Or.inr (slot_ne (Or.inr (own_w hw 36 rfl)) (Or.inr (own_w hw 38 rfl)) (by decide) (t := .long) (t' := (.object "java/math/BigInteger")) (by decide) (by decide)))
  have f24 := Fw6.other W11 (Or.inr (slot_ne (Or.inl (own_w hw 34 rfl)) (Or.inr (own_w hw 36 rfl)) (by decide) (t := .int) (t' := .long) (by decide) (by decide)))
  have f25 := f24.other W17 (Or.inr (slot_ne (Or.inl (own_w hw 34 rfl)) (Or.inr (own_w hw 38 rfl)) (by decide) (t := .int) (t' := (.object "java/math/BigInteger")) (by decide) (by decide)))
  obtain ⟨fs, hr, hrun, hended, hW, hsame⟩ := X17.leave (v := none) (fun _ => rfl) Bd.notSynchronized
  refine ⟨_, _, pre0 _ ?_, hrun, hended, _, _, rfl, ?_, ⟨_, rfl⟩, hW, hsame.mono (by decide) (by decide)⟩
  · show Steps p.tables e below (s₁.setTop (mkF m 0 #[.val (.ref a1), .val .null, .val (.long x), .second, .val (.int sc), .val (.int pr)] [])) _
    refine XS.aloadN X0.here hx rfl (hb hby d4_0) rfl rfl ?_
    refine st1.trans ?_
    refine XS.aloadN X1.here hx rfl (hb hby d4_4) rfl rfl ?_
    refine XS.iload X1.here hx rfl (hb hby d4_5) rfl ?_
    refine st2 _ ?_
    refine XS.aloadN X2.here hx rfl (hb hby d4_10) rfl rfl ?_
    refine XS.iload X2.here hx rfl (hb hby d4_11) rfl ?_
    refine st6 _ ?_
    refine XS.aloadN X6.here hx rfl (hb hby d4_16) rfl rfl ?_
    refine XS.lloadN X6.here hx rfl (hb hby d4_17) rfl ?_
    refine st11 _ ?_
    refine XS.aloadN X11.here hx rfl (hb hby d4_21) rfl rfl ?_
    refine XS.aloadN X11.here hx rfl (hb hby d4_22) rfl rfl ?_
    refine st17 _ ?_
    show Steps p.tables e below (T17.setTop (mkF m 26 #[.val (.ref a1), .val .null, .val (.long x), .second, .val (.int sc), .val (.int pr)] [])) _
    exact X17.returnOut hx Bd.returns (hb hby d4_26) hr
  · show QrmInN Z a1 x sc pr  h0 n0 _ T17.heap _
    rw [e17]
    exact ⟨rfl, N17, (((((Keep.refl h0 [a1]).wr W2 (Or.inl (List.mem_of_getElem? (i := 0) rfl))).wr W6 (Or.inl (List.mem_of_getElem? (i := 0) rfl))).wr W11 (Or.inl (List.mem_of_getElem? (i := 0) rfl))).wr W17 (Or.inl (List.mem_of_getElem? (i := 0) rfl))), ⟨f19, f22, f23⟩, f25⟩
theorem ef_rmInR (m : MethodId) (x0 : Addr) (x1 : Addr) (x2 : Int64) (x3 : Int32) (x4 : Int32) : entryFrame m #[(.ref x0), (.ref x1), (.long x2), (.int x3), (.int x4)] 6 = mkF m 0 #[.val (.ref x0), .val (.ref x1), .val (.long x2), .second, .val (.int x3), .val (.int x4)] [] := by first | (simp [entryFrame, mkF, argsToLocals, Value.category]; done) | rfl
def QrmInR (Z : State) (a1 : Addr) (a2 : Addr) (x : Int64) (sc : Int32) (pr : Int32)  (h0 : Heap) (n0 : Nat) (v : Option Value) (h : Heap) (L : List Loc) : Prop := v = none ∧ Fr n0 L ∧ Keep h0 h [a1] ∧ own_BD Z h a1 sc x ∧ own_PR Z h a1 pr
theorem rmInR (l : Launch) (Z : State) (a0 : Array Value) (hw : ∀ d ∈ tables_1, d.before a0 Z = true) (ws : List Jvm.Cond) (a1 : Addr) (a2 : Addr) (x : Int64) (sc : Int32) (pr : Int32)  (h0 : Heap) (n0 : Nat) (Z0 : n0 ≤ h0.size) (E_a1 : Exa Z h0 a1 "java/math/BigDecimal") (g_a1 : n0 ≤ a1) (F_scale : Fld Z h0 a1 "java/math/BigDecimal" "scale" "I" (.int (0 : Int32))) (F_precision : Fld Z h0 a1 "java/math/BigDecimal" "precision" "I" (.int (0 : Int32))) (F_intCompact : Fld Z h0 a1 "java/math/BigDecimal" "intCompact" "J" (.long (0 : Int64))) (F_intVal : Fld Z h0 a1 "java/math/BigDecimal" "intVal" "Ljava/math/BigInteger;" .null) :
    MetFree l m_6 (head1 (Jvm.Cond.code m_6 jdk_17_method_1_code 6 none :: ws) ({ frames := 2, cells := 0, slots := 0, locals := 24 } : Room)) (fun a U => a = #[(.ref a1), (.ref a2), (.long x), (.int sc), (.int pr)] ∧ Z.Warmed39 U.vm ∧ U.heap = h0) (fun _ _ _ _ _ => True) (fun _ U o U' => ∃ v L, o = .returned v ∧ QrmInR Z a1 a2 x sc pr  h0 n0 v U'.heap L ∧ FrameEnd U o U' L ({ frames := 2, cells := 0, slots := 0, locals := 24 } : Room).cells ({ frames := 2, cells := 0, slots := 0, locals := 24 } : Room).slots) := by
  refine MetFree.of_bodySF (plainFor_of_name pn_java_math_BigDecimal) hisR ?_
  intro p e s m args below meth c s₁ Bd hml0 hP hK
  obtain ⟨rfl, hZ, hh⟩ := hP
  have hx := Bd.exec
  have hby := Bd.bytes
  have hml : c.maxLocals = 6 := hml0
  have hown : s.vm.findClass "java/math/BigDecimal" = some m.cls := findClass_of_methodNamed Bd.named
  have hnm := (name_of_methodNamed Bd.named Bd.method).1
  have X0 : Stand p l e ({ frames := 2, cells := 0, slots := 0, locals := 24 } : Room) s m #[(.ref a1), (.ref a2), (.long x), (.int sc), (.int pr)] below meth c s₁ [] 0 0 := Stand.of_body Bd
  have e0 : s₁.heap = h0 := by rw [← hh, Bd.state]; rfl
  have N0 := Fr.nil n0
  have pre0 : ∀ t, Steps p.tables e below (s₁.setTop (mkF m 0 #[.val (.ref a1), .val (.ref a2), .val (.long x), .second, .val (.int sc), .val (.int pr)] [])) t → Steps p.tables e below (s₁.setTop (entryFrame m #[(.ref a1), (.ref a2), (.long x), (.int sc), (.int pr)] 6)) t := fun t k => castTop (ef_rmInR m a1 a2 x sc pr) k
  obtain ⟨_, _, ⟨T1, L1, k1, n1⟩, -, X1, ⟨Lc1, hQ1, l1, y1, z1⟩, st1⟩ := X0.specialBack hx (y := m_25) rfl hown (mvT hZ (own_w hw 22 rfl)) (mvT hZ (own_w hw 23 rfl)) (mvT hZ (own_w hw 27 rfl)) (by decide) (backOf (W := 0) (rmNum l Z a0 hw [] a1  h0 n0 Z0 ) hZ (own_w hw 27 rfl) (own_w hw 26 rfl) (by decide) (by decide)) (g := (mkF m 1 #[.val (.ref a1), .val (.ref a2), .val (.long x), .second, .val (.int sc), .val (.int pr)] [(.ref a1)])) rfl (by rw [hml]; rfl) (Steps.refl _) (a := a1) (argsL := []) (rest := []) (lenOf pd_5 rfl) rfl (by show 2 * 0 + _ ≤ _; exact Nat.le_of_eq rfl) (hb hby d4_1) (fun _ _ => ⟨rfl, e0, (by decide : 0 + 0 ≤ _), (by decide : 0 + 0 ≤ _)⟩)
  dsimp only [Pt.U, Pt.locs, Pt.cells, Pt.slots] at X1 l1 y1 z1 st1 hQ1
  subst y1 z1
  obtain ⟨rfl, N1q, e1⟩ := hQ1
  have N1 : Fr n0 L1 := by rw [l1]; exact Fr.app N0 N1q
  obtain ⟨T2, h2, X2, e2, W2, st2⟩ := putF X1 hx hZ hown (host := "") (Or.inl (own_w hw 31 rfl)) Via.refl e1 F_scale E_a1 (Or.inr ⟨(own_w hw 32 rfl), rfl, hnm⟩) (own_w hw 16 rfl) (ty := .int) (by decide) rfl rfl (g := (mkF m 7 #[.val (.ref a1), .val (.ref a2), .val (.long x), .second, .val (.int sc), .val (.int pr)] [(.int sc), (.ref a1)])) rfl rfl (hb hby d4_7)
  have Z3 : n0 ≤ h2.size := Nat.le_trans Z0 (Keep.of_wr W2).1
  have Fw2 := F_scale.same W2
  have N2 := Fr.snoc X2 N1 g_a1
  have f4 := F_precision.other W2 (Or.inr (slot_ne (Or.inl (own_w hw 34 rfl)) (Or.inr (own_w hw 32 rfl)) (by decide) (t := .int) (t' := .int) (by decide) (by decide)))
  have f5 := E_a1.wr W2
  obtain ⟨T6, h6, X6, e6, W6, st6⟩ := putF X2 hx hZ hown (host := "") (Or.inl (own_w hw 33 rfl)) Via.refl e2 f4 f5 (Or.inl (own_w hw 34 rfl)) (own_w hw 16 rfl) (ty := .int) (by decide) rfl rfl (g := (mkF m 13 #[.val (.ref a1), .val (.ref a2), .val (.long x), .second, .val (.int sc), .val (.int pr)] [(.int pr), (.ref a1)])) rfl rfl (hb hby d4_13)
  have Z7 : n0 ≤ h6.size := Nat.le_trans Z3 (Keep.of_wr W6).1
  have Fw6 := f4.same W6
  have N6 := Fr.snoc X6 N2 g_a1
  have f8 := F_intCompact.other W2 (Or.inr (slot_ne (Or.inr (own_w hw 36 rfl)) (Or.inr (own_w hw 32 rfl)) (by decide) (t := .long) (t' := .int) (by decide) (by decide)))
  have f9 := f8.other W6 (Or.inr (slot_ne (Or.inr (own_w hw 36 rfl)) (Or.inl (own_w hw 34 rfl)) (by decide) (t := .long) (t' := .int) (by decide) (by decide)))
  have f10 := f5.wr W6
  obtain ⟨T11, h11, X11, e11, W11, st11⟩ := putF X6 hx hZ hown (host := "") (Or.inl (own_w hw 35 rfl)) Via.refl e6 f9 f10 (Or.inr ⟨(own_w hw 36 rfl), rfl, hnm⟩) (own_w hw 16 rfl) (ty := .long) (by decide) rfl rfl (g := (mkF m 18 #[.val (.ref a1), .val (.ref a2), .val (.long x), .second, .val (.int sc), .val (.int pr)] [(.long x), (.ref a1)])) rfl rfl (hb hby d4_18)
  have Z12 : n0 ≤ h11.size := Nat.le_trans Z7 (Keep.of_wr W11).1
  have Fw11 := f9.same W11
  have N11 := Fr.snoc X11 N6 g_a1
  have f13 := F_intVal.other W2 (Or.inr (slot_ne (Or.inr (own_w hw 38 rfl)) (Or.inr (own_w hw 32 rfl)) (by decide) (t := (.object "java/math/BigInteger")) (t' := .int) (by decide) (by decide)))
  have f14 := f13.other W6 (Or.inr (slot_ne (Or.inr (own_w hw 38 rfl)) (Or.inl (own_w hw 34 rfl)) (by decide) (t := (.object "java/math/BigInteger")) (t' := .int) (by decide) (by decide)))
  have f15 := f14.other W11 (Or.inr (slot_ne (Or.inr (own_w hw 38 rfl)) (Or.inr (own_w hw 36 rfl)) (by decide) (t := (.object "java/math/BigInteger")) (t' := .long) (by decide) (by decide)))
  have f16 := f10.wr W11
  obtain ⟨T17, h17, X17, e17, W17, st17⟩ := putF X11 hx hZ hown (host := "") (Or.inl (own_w hw 37 rfl)) Via.refl e11 f15 f16 (Or.inr ⟨(own_w hw 38 rfl), rfl, hnm⟩) (own_w hw 16 rfl) (ty := (.object "java/math/BigInteger")) (by decide) rfl rfl (g := (mkF m 23 #[.val (.ref a1), .val (.ref a2), .val (.long x), .second, .val (.int sc), .val (.int pr)] [(.ref a2), (.ref a1)])) rfl rfl (hb hby d4_23)
  have Z18 : n0 ≤ h17.size := Nat.le_trans Z12 (Keep.of_wr W17).1
  have Fw17 := f15.same W17
  have N17 := Fr.snoc X17 N11 g_a1
  have f19 := f16.wr W17
  have f20 := Fw2.other W6 (Or.inr (slot_ne (Or.inr (own_w hw 32 rfl)) (Or.inl (own_w hw 34 rfl)) (by decide) (t := .int) (t' := .int) (by decide) (by decide)))
  have f21 := f20.other W11 (Or.inr (slot_ne (Or.inr (own_w hw 32 rfl)) (Or.inr (own_w hw 36 rfl)) (by decide) (t := .int) (t' := .long) (by decide) (by decide)))
  have f22 := f21.other W17 (Or.inr (slot_ne (Or.inr (own_w hw 32 rfl)) (Or.inr (own_w hw 38 rfl)) (by decide) (t := .int) (t' := (.object "java/math/BigInteger")) (by decide) (by decide)))
  have f23 := Fw11.other W17 (Or.inr (slot_ne (Or.inr (own_w hw 36 rfl)) (Or.inr (own_w hw 38 rfl)) (by decide) (t := .long) (t' := (.object "java/math/BigInteger")) (by decide) (by decide)))
  have f24 := Fw6.other W11 (Or.inr (slot_ne (Or.inl (own_w hw 34 rfl)) (Or.inr (own_w hw 36 rfl)) (by decide) (t := .int) (t' := .long) (by decide) (by decide)))
  have f25 := f24.other W17 (Or.inr (slot_ne (Or.inl (own_w hw 34 rfl)) (Or.inr (own_w hw 38 rfl)) (by decide) (t := .int) (t' := (.object "java/math/BigInteger")) (by decide) (by decide)))
  obtain ⟨fs, hr, hrun, hended, hW, hsame⟩ := X17.leave (v := none) (fun _ => rfl) Bd.notSynchronized
  refine ⟨_, _, pre0 _ ?_, hrun, hended, _, _, rfl, ?_, ⟨_, rfl⟩, hW, hsame.mono (by decide) (by decide)⟩
  · show Steps p.tables e below (s₁.setTop (mkF m 0 #[.val (.ref a1), .val (.ref a2), .val (.long x), .second, .val (.int sc), .val (.int pr)] [])) _
    refine XS.aloadN X0.here hx rfl (hb hby d4_0) rfl rfl ?_
    refine st1.trans ?_
    refine XS.aloadN X1.here hx rfl (hb hby d4_4) rfl rfl ?_
    refine XS.iload X1.here hx rfl (hb hby d4_5) rfl ?_
    refine st2 _ ?_
    refine XS.aloadN X2.here hx rfl (hb hby d4_10) rfl rfl ?_
    refine XS.iload X2.here hx rfl (hb hby d4_11) rfl ?_
    refine st6 _ ?_
    refine XS.aloadN X6.here hx rfl (hb hby d4_16) rfl rfl ?_
    refine XS.lloadN X6.here hx rfl (hb hby d4_17) rfl ?_
    refine st11 _ ?_
    refine XS.aloadN X11.here hx rfl (hb hby d4_21) rfl rfl ?_
    refine XS.aloadN X11.here hx rfl (hb hby d4_22) rfl rfl ?_
    refine st17 _ ?_
    show Steps p.tables e below (T17.setTop (mkF m 26 #[.val (.ref a1), .val (.ref a2), .val (.long x), .second, .val (.int sc), .val (.int pr)] [])) _
    exact X17.returnOut hx Bd.returns (hb hby d4_26) hr
  · show QrmInR Z a1 a2 x sc pr  h0 n0 _ T17.heap _
    rw [e17]
    exact ⟨rfl, N17, (((((Keep.refl h0 [a1]).wr W2 (Or.inl (List.mem_of_getElem? (i := 0) rfl))).wr W6 (Or.inl (List.mem_of_getElem? (i := 0) rfl))).wr W11 (Or.inl (List.mem_of_getElem? (i := 0) rfl))).wr W17 (Or.inl (List.mem_of_getElem? (i := 0) rfl))), ⟨f19, f22, f23⟩, f25⟩
def own_QB (Z : State) (h0 h : Heap) (n0 : Nat) (b : Addr) (sc : Int32) (ic : Int64) : Prop := Keep h0 h [] ∧ (b < n0 ∨ h0.size ≤ b) ∧ own_BD Z h b sc ic ∧ (¬ (ic = 0) → own_PS Z h n0 b ic)
theorem own_ofn {j : Int32} (h0 : 0 ≤ j.toInt) : Int32.ofNat j.toNatClampNeg = j := by
  have u := Int32.toInt_lt j
  apply Int32.toInt_inj.mp
  rw [Int32.toInt_ofNat_of_lt (by simp only [Int32.toNatClampNeg]; omega)]
  simp only [Int32.toNatClampNeg]
  omega
theorem own_ofl {x : Int64} (h0 : 0 ≤ x.toInt) (h1 : x.toInt < 11) : Int64.ofNat x.toInt32.toNatClampNeg = x ∧ 0 ≤ x.toInt32.toInt ∧ x.toInt32.toInt < (11 : Nat) := by
  have q := c_l2i x
  have u := Int32.toInt_lt x.toInt32
  have l := Int32.le_toInt x.toInt32
  refine ⟨Int64.toInt_inj.mp ?_, by omega, by omega⟩
  rw [Int64.toInt_ofNat_of_lt (by simp only [Int32.toNatClampNeg]; omega)]
  simp only [Int32.toNatClampNeg]
  omega
theorem own_zd : ∀ i : Fin 11, i.1 ≠ 0 → own_z i.1 = own_dl (Int64.ofNat i.1) ∧ ¬ (own_z i.1 = 0) := by decide +kernel
theorem own_ge0 {j : Int32} (h : ¬ (j < (0 : Int32))) : 0 ≤ j.toInt := by
  rw [Int32.lt_iff_toInt_lt] at h
  have e0 : (0 : Int32).toInt = 0 := rfl
  omega
theorem own_ltN {j N : Int32} {n : Int} (h : j.toInt < n) (e : N.toInt = n) : j < N := Int32.lt_iff_toInt_lt.mpr (by omega)
theorem d43_0 : decode c_13 0 = .ok (.iload_n 0, 1) := by decide +kernel
theorem d43_1 : decode c_13 1 = .ok (.ifCond .lt 17, 3) := by decide +kernel
theorem d43_18 : decode c_13 18 = .ok (.new 3, 3) := by decide +kernel
theorem d43_21 : decode c_13 21 = .ok (.dup, 1) := by decide +kernel
theorem d43_22 : decode c_13 22 = .ok (.getstatic 185, 3) := by decide +kernel
theorem d43_25 : decode c_13 25 = .ok (.lconst 0, 1) := by decide +kernel
theorem d43_26 : decode c_13 26 = .ok (.iload_n 0, 1) := by decide +kernel
theorem d43_27 : decode c_13 27 = .ok (.iconst 1, 1) := by decide +kernel
theorem d43_28 : decode c_13 28 = .ok (.invokespecial 243, 3) := by decide +kernel
theorem pd_6 : parseMethodDescriptor "(Ljava/math/BigInteger;JII)V" = some ⟨[(.object "java/math/BigInteger"), .long, .int, .int], none⟩ := by decide +kernel
theorem d43_31 : decode c_13 31 = .ok (.areturn, 1) := by decide +kernel
theorem d43_4 : decode c_13 4 = .ok (.iload_n 0, 1) := by decide +kernel
theorem d43_5 : decode c_13 5 = .ok (.getstatic 250, 3) := by decide +kernel
theorem d43_8 : decode c_13 8 = .ok (.arraylength, 1) := by decide +kernel
theorem d43_9 : decode c_13 9 = .ok (.if_icmp .ge 9, 3) := by decide +kernel
theorem d43_12 : decode c_13 12 = .ok (.getstatic 250, 3) := by decide +kernel
theorem d43_15 : decode c_13 15 = .ok (.iload_n 0, 1) := by decide +kernel
theorem d43_16 : decode c_13 16 = .ok (.aaload, 1) := by decide +kernel
theorem d43_17 : decode c_13 17 = .ok (.areturn, 1) := by decide +kernel
theorem ef_rmZv (m : MethodId) (x0 : Int32) : entryFrame m #[(.int x0)] 1 = mkF m 0 #[.val (.int x0)] [] := by first | (simp [entryFrame, mkF, argsToLocals, Value.category]; done) | rfl
def QrmZv (Z : State) (p1 : Int32)  (h0 : Heap) (n0 : Nat) (v : Option Value) (h : Heap) (L : List Loc) : Prop := ∃ b, v = some (.ref b) ∧ Fr n0 L ∧ own_QB Z h0 h n0 b p1 0
theorem rmZv (l : Launch) (Z : State) (a0 : Array Value) (hw : ∀ d ∈ tables_1, d.before a0 Z = true) (ws : List Jvm.Cond) (p1 : Int32)  (h0 : Heap) (n0 : Nat) (Z0 : n0 ≤ h0.size) (J : own_J Z) (O0 : Old Z n0 h0) (hi1 : p1.toInt < (16 : Nat)) :
    MetFree l m_26 (head1 (Jvm.Cond.code m_26 jdk_17_method_24_code 1 (some (.object "java/math/BigDecimal")) :: ws) ({ frames := 3, cells := 1, slots := 5, locals := 42 } : Room)) (fun a U => a = #[(.int p1)] ∧ Z.Warmed39 U.vm ∧ U.heap = h0) (fun _ _ _ _ _ => True) (fun _ U o U' => ∃ v L, o = .returned v ∧ QrmZv Z p1  h0 n0 v U'.heap L ∧ FrameEnd U o U' L ({ frames := 3, cells := 1, slots := 5, locals := 42 } : Room).cells ({ frames := 3, cells := 1, slots := 5, locals := 42 } : Room).slots) := by
  refine MetFree.of_bodySF (plainFor_of_name pn_java_math_BigDecimal) hisR ?_
  intro p e s m args below meth c s₁ Bd hml0 hP hK
  obtain ⟨rfl, hZ, hh⟩ := hP
  have hx := Bd.exec
  have hby := Bd.bytes
  have hml : c.maxLocals = 1 := hml0
  have hown : s.vm.findClass "java/math/BigDecimal" = some m.cls := findClass_of_methodNamed Bd.named
  have hnm := (name_of_methodNamed Bd.named Bd.method).1
  have X0 : Stand p l e ({ frames := 3, cells := 1, slots := 5, locals := 42 } : Room) s m #[(.int p1)] below meth c s₁ [] 0 0 := Stand.of_body Bd
  have e0 : s₁.heap = h0 := by rw [← hh, Bd.state]; rfl
  have N0 := Fr.nil n0
  have pre0 : ∀ t, Steps p.tables e below (s₁.setTop (mkF m 0 #[.val (.int p1)] [])) t → Steps p.tables e below (s₁.setTop (entryFrame m #[(.int p1)] 1)) t := fun t k => castTop (ef_rmZv m p1) k
  obtain ⟨aS, cS, sS, AS, zS, HS⟩ := J.zsb
  obtain ⟨bi, sI⟩ := J.bizero
  by_cases hq1 : p1 < (0 : Int32)
  · obtain ⟨T1, h1, X1, e1, E1, A1, D1, -, st1⟩ := newO X0 hx hZ hown (own_w hw 15 rfl) (own_w hw 16 rfl) (own_w hw 9 rfl) e0 (g := (mkF m 18 #[.val (.int p1)] [])) rfl (hb hby d43_18) (by decide) (by decide)
    obtain ⟨b1, gz1⟩ : ∃ z, z = h0.size := ⟨_, rfl⟩
    rw [← gz1] at A1 D1 st1
    have g_b1 : n0 ≤ b1 := Nat.le_trans Z0 (Nat.le_of_eq gz1.symm)
    have sz_b1 : h0.size ≤ b1 := Nat.le_trans (Keep.refl h0 []).1 (Nat.le_of_eq gz1.symm)
    have Z2 : n0 ≤ h1.size := Nat.le_trans Z0 E1.1
    have F_scale_b1 : Fld Z h1 b1 "java/math/BigDecimal" "scale" "I" (.int (0 : Int32)) := D1 (Or.inr (own_w hw 32 rfl)) (ty := .int) (by decide)
    have F_precision_b1 : Fld Z h1 b1 "java/math/BigDecimal" "precision" "I" (.int (0 : Int32)) := D1 (Or.inl (own_w hw 34 rfl)) (ty := .int) (by decide)
    have F_intCompact_b1 : Fld Z h1 b1 "java/math/BigDecimal" "intCompact" "J" (.long (0 : Int64)) := D1 (Or.inr (own_w hw 36 rfl)) (ty := .long) (by decide)
    have F_intVal_b1 : Fld Z h1 b1 "java/math/BigDecimal" "intVal" "Ljava/math/BigInteger;" .null := D1 (Or.inr (own_w hw 38 rfl)) (ty := (.object "java/math/BigInteger")) (by decide)
    have f3 := sI.ext (O0.ext E1).2
    obtain ⟨T4, X4, e4, st4⟩ := getS2 X1 hx hZ hown (host := "") (Or.inl (own_w hw 227 rfl)) Via.refl e1 f3 (g := (mkF m 22 #[.val (.int p1)] [(.ref b1), (.ref b1)])) rfl (hb hby d43_22)
    obtain ⟨_, _, ⟨T5, L5, k5, n5⟩, -, X5, ⟨Lc5, hQ5, l5, y5, z5⟩, st5⟩ := X4.specialBack hx (y := m_6) rfl hown (mvT hZ (own_w hw 18 rfl)) (mvT hZ (own_w hw 19 rfl)) (mvT hZ (own_w hw 21 rfl)) (by decide) (backOf (W := 1) (rmInR l Z a0 hw [] b1 bi (0 : Int64) p1 (1 : Int32)  h1 n0 Z2 A1 g_b1 F_scale_b1 F_precision_b1 F_intCompact_b1 F_intVal_b1) hZ (own_w hw 21 rfl) (own_w hw 9 rfl) (by decide) (by decide)) (g := (mkF m 28 #[.val (.int p1)] [(.int (1 : Int32)), (.int p1), (.long (0 : Int64)), (.ref bi), (.ref b1), (.ref b1)])) rfl (by rw [hml]; rfl) (Steps.refl _) (a := b1) (argsL := [(.ref bi), (.long (0 : Int64)), (.int p1), (.int (1 : Int32))]) (rest := [(.ref b1)]) (lenOf pd_6 rfl) rfl (by show 2 * 0 + _ ≤ _; exact Nat.le_of_eq rfl) (hb hby d43_28) (fun _ _ => ⟨rfl, e4, (by decide : 1 + 0 ≤ _), (by decide : 5 + 0 ≤ _)⟩)
    dsimp only [Pt.U, Pt.locs, Pt.cells, Pt.slots] at X5 l5 y5 z5 st5 hQ5
    subst y5 z5
    obtain ⟨rfl, N5q, K5, B5, P5⟩ := hQ5
    have N5 : Fr n0 L5 := by rw [l5]; exact Fr.app N0 N5q
    have Z6 : n0 ≤ T5.heap.size := Nat.le_trans Z2 K5.1
    obtain ⟨fs, hr, hrun, hended, hW, hsame⟩ := X5.leave (v := some (.ref b1)) (fun h => by rw [Bd.returns] at h; cases h) Bd.notSynchronized
    refine ⟨_, _, pre0 _ ?_, hrun, hended, _, _, rfl, ?_, ⟨_, rfl⟩, hW, hsame.mono (by decide) (by decide)⟩
    · show Steps p.tables e below (s₁.setTop (mkF m 0 #[.val (.int p1)] [])) _
      refine XS.iloadN X0.here hx rfl (hb hby d43_0) rfl ?_
      refine XS.ifYes X0.here hx rfl (pc0 := 1) (pc' := 18) rfl (hb hby d43_1) rfl ((if0 _ _).trans (tlt (hq1 : p1 < (0 : Int32))).1) (by decide) (by decide) ?_
      refine st1 _ ?_
      refine XS.dup X1.here hx rfl (hb hby d43_21) rfl rfl ?_
      refine st4 _ ?_
      refine XS.lconst X4.here hx rfl (hb hby d43_25) ?_
      refine XS.iloadN X4.here hx rfl (hb hby d43_26) rfl ?_
      refine XS.iconst X4.here hx rfl (hb hby d43_27) ?_
      refine st5.trans ?_
      show Steps p.tables e below (T5.setTop (mkF m 31 #[.val (.int p1)] [(.ref b1)])) _
      jvm_step X5.here [X5.here.top, hx, (hb hby d43_31), X5.method', Bd.returns, Value.isRef, FieldType.isReference]
      first | (intro acts; rw [hr _ acts rfl rfl rfl]) | rw [hr _ _ rfl rfl rfl]
      exact Steps.refl _
    · show QrmZv Z p1  h0 n0 _ T5.heap _
      exact ⟨b1, rfl, N5, (((Keep.refl h0 []).ext E1).trans K5 (allS (Or.inr sz_b1) all0)), Or.inr sz_b1, B5, fun q => absurd rfl q⟩
  · have hi0 := own_ge0 hq1
    obtain ⟨bz, hz, Bz⟩ := HS _ (own_cl hi0 hi1)
    rw [own_ofn hi0] at Bz
    have f1 := sS.ext O0.2
    obtain ⟨T2, X2, e2, st2⟩ := getS2 X0 hx hZ hown (host := "") (Or.inl (own_w hw 229 rfl)) Via.refl e0 f1 (g := (mkF m 5 #[.val (.int p1)] [(.int p1)])) rfl (hb hby d43_5)
    have f3 := AS.ext O0.2
    obtain ⟨T4, X4, e4, st4⟩ := getS2 X2 hx hZ hown (host := "") (Or.inl (own_w hw 229 rfl)) Via.refl e2 f1 (g := (mkF m 12 #[.val (.int p1)] [])) rfl (hb hby d43_12)
    have f5 := AS.ext O0.2
    obtain ⟨fs, hr, hrun, hended, hW, hsame⟩ := X4.leave (v := some (.ref bz)) (fun h => by rw [Bd.returns] at h; cases h) Bd.notSynchronized
    refine ⟨_, _, pre0 _ ?_, hrun, hended, _, _, rfl, ?_, ⟨_, rfl⟩, hW, hsame.mono (by decide) (by decide)⟩
    · show Steps p.tables e below (s₁.setTop (mkF m 0 #[.val (.int p1)] [])) _
      refine XS.iloadN X0.here hx rfl (hb hby d43_0) rfl ?_
      refine XS.ifNo X0.here hx rfl (hb hby d43_1) rfl ((if0 _ _).trans (flt (hq1 : ¬ (p1 < (0 : Int32)))).1) ?_
      refine XS.iloadN X0.here hx rfl (hb hby d43_4) rfl ?_
      refine st2 _ ?_
      refine X2.arraylength hx (cell := cS) (by rw [e2]; exact f3.1) (State.isArrayOf_alike hZ.alike f3.2.1) (g := (mkF m 8 #[.val (.int p1)] [(.ref aS), (.int p1)])) rfl (rest := [(.int p1)]) rfl (hb hby d43_8) _ ?_
      rw [len_of (zS.trans (by decide) : _ = (16 : Int32).toNatClampNeg) (by decide : ¬ (16 : Int32) < 0)]
      refine XS.icmpNo X2.here hx rfl (hb hby d43_9) rfl (tlt (own_ltN hi1 rfl : p1 < (16 : Int32))).2.1 ?_
      refine st4 _ ?_
      refine XS.iloadN X4.here hx rfl (hb hby d43_15) rfl ?_
      refine X4.aaload hx (j := p1) (v := (.ref bz)) (by rw [e4]; exact f5.1) (State.isArrayOf_alike hZ.alike f5.2.1) rfl f5.2.2 (own_in zS hi0 hi1) hz (g := (mkF m 16 #[.val (.int p1)] [(.int p1), (.ref aS)])) rfl rfl (hb hby d43_16) _ ?_
      show Steps p.tables e below (T4.setTop (mkF m 17 #[.val (.int p1)] [(.ref bz)])) _
      jvm_step X4.here [X4.here.top, hx, (hb hby d43_17), X4.method', Bd.returns, Value.isRef, FieldType.isReference]
      first | (intro acts; rw [hr _ acts rfl rfl rfl]) | rw [hr _ _ rfl rfl rfl]
      exact Steps.refl _
    · show QrmZv Z p1  h0 n0 _ T4.heap _
      rw [e4]
      exact ⟨bz, rfl, N0, Keep.refl _ _, Or.inl (O0.1 ▸ Bz.1.lt), Bz.ext O0.2, fun q => absurd rfl q⟩
theorem own_l0 {x : Int64} (h : ¬ (lcmpW x (0 : Int64) < (0 : Int32))) : 0 ≤ x.toInt := by
  rw [lw_lt, Int64.lt_iff_toInt_lt] at h
  have e0 : (0 : Int64).toInt = 0 := rfl
  omega
theorem own_l11 {x : Int64} (h : lcmpW x ((11 : Int32).toInt64) < (0 : Int32)) : x.toInt < 11 := by
  rw [lw_lt, Int64.lt_iff_toInt_lt] at h
  exact h
theorem d3_0 : decode c_12 0 = .ok (.lload_n 0, 1) := by decide +kernel
theorem d3_1 : decode c_12 1 = .ok (.lconst 0, 1) := by decide +kernel
theorem d3_2 : decode c_12 2 = .ok (.lcmp, 1) := by decide +kernel
theorem d3_3 : decode c_12 3 = .ok (.ifCond .lt 20, 3) := by decide +kernel
theorem d3_23 : decode c_12 23 = .ok (.lload_n 0, 1) := by decide +kernel
theorem d3_24 : decode c_12 24 = .ok (.ldc2_w 125, 3) := by decide +kernel
theorem d3_27 : decode c_12 27 = .ok (.lcmp, 1) := by decide +kernel
theorem d3_28 : decode c_12 28 = .ok (.ifCond .eq 15, 3) := by decide +kernel
theorem d3_31 : decode c_12 31 = .ok (.new 3, 3) := by decide +kernel
theorem d3_34 : decode c_12 34 = .ok (.dup, 1) := by decide +kernel
theorem d3_35 : decode c_12 35 = .ok (.aconst_null, 1) := by decide +kernel
theorem d3_36 : decode c_12 36 = .ok (.lload_n 0, 1) := by decide +kernel
theorem d3_37 : decode c_12 37 = .ok (.iconst 0, 1) := by decide +kernel
theorem d3_38 : decode c_12 38 = .ok (.iconst 0, 1) := by decide +kernel
theorem d3_39 : decode c_12 39 = .ok (.invokespecial 243, 3) := by decide +kernel
theorem d3_42 : decode c_12 42 = .ok (.areturn, 1) := by decide +kernel
theorem d3_6 : decode c_12 6 = .ok (.lload_n 0, 1) := by decide +kernel
theorem d3_7 : decode c_12 7 = .ok (.getstatic 246, 3) := by decide +kernel
theorem d3_10 : decode c_12 10 = .ok (.arraylength, 1) := by decide +kernel
theorem d3_11 : decode c_12 11 = .ok (.i2l, 1) := by decide +kernel
theorem d3_12 : decode c_12 12 = .ok (.lcmp, 1) := by decide +kernel
theorem d3_13 : decode c_12 13 = .ok (.ifCond .ge 10, 3) := by decide +kernel
theorem d3_16 : decode c_12 16 = .ok (.getstatic 246, 3) := by decide +kernel
theorem d3_19 : decode c_12 19 = .ok (.lload_n 0, 1) := by decide +kernel
theorem d3_20 : decode c_12 20 = .ok (.l2i, 1) := by decide +kernel
theorem d3_21 : decode c_12 21 = .ok (.aaload, 1) := by decide +kernel
theorem d3_22 : decode c_12 22 = .ok (.areturn, 1) := by decide +kernel
theorem ef_rmV1 (m : MethodId) (x0 : Int64) : entryFrame m #[(.long x0)] 2 = mkF m 0 #[.val (.long x0), .second] [] := by first | (simp [entryFrame, mkF, argsToLocals, Value.category]; done) | rfl
def QrmV1 (Z : State) (x : Int64)  (h0 : Heap) (n0 : Nat) (v : Option Value) (h : Heap) (L : List Loc) : Prop := ∃ b, v = some (.ref b) ∧ Fr n0 L ∧ own_QB Z h0 h n0 b 0 x
theorem rmV1 (l : Launch) (Z : State) (a0 : Array Value) (hw : ∀ d ∈ tables_1, d.before a0 Z = true) (ws : List Jvm.Cond) (x : Int64)  (h0 : Heap) (n0 : Nat) (Z0 : n0 ≤ h0.size) (J : own_J Z) (O0 : Old Z n0 h0) (hm : ¬ (lcmpW x (-9223372036854775808 : Int64) = (0 : Int32))) :
    MetFree l m_36 (head1 (Jvm.Cond.code m_36 jdk_17_method_21_code 2 (some (.object "java/math/BigDecimal")) :: ws) ({ frames := 3, cells := 1, slots := 5, locals := 42 } : Room)) (fun a U => a = #[(.long x)] ∧ Z.Warmed39 U.vm ∧ U.heap = h0) (fun _ _ _ _ _ => True) (fun _ U o U' => ∃ v L, o = .returned v ∧ QrmV1 Z x  h0 n0 v U'.heap L ∧ FrameEnd U o U' L ({ frames := 3, cells := 1, slots := 5, locals := 42 } : Room).cells ({ frames := 3, cells := 1, slots := 5, locals := 42 } : Room).slots) := by
  refine MetFree.of_bodySF (plainFor_of_name pn_java_math_BigDecimal) hisR ?_
  intro p e s m args below meth c s₁ Bd hml0 hP hK
  obtain ⟨rfl, hZ, hh⟩ := hP
  have hx := Bd.exec
  have hby := Bd.bytes
  have hml : c.maxLocals = 2 := hml0
  have hown : s.vm.findClass "java/math/BigDecimal" = some m.cls := findClass_of_methodNamed Bd.named
  have hnm := (name_of_methodNamed Bd.named Bd.method).1
  have X0 : Stand p l e ({ frames := 3, cells := 1, slots := 5, locals := 42 } : Room) s m #[(.long x)] below meth c s₁ [] 0 0 := Stand.of_body Bd
  have e0 : s₁.heap = h0 := by rw [← hh, Bd.state]; rfl
  have N0 := Fr.nil n0
  have pre0 : ∀ t, Steps p.tables e below (s₁.setTop (mkF m 0 #[.val (.long x), .second] [])) t → Steps p.tables e below (s₁.setTop (entryFrame m #[(.long x)] 2)) t := fun t k => castTop (ef_rmV1 m x) k
  obtain ⟨aS, cS, sS, AS, zS, HS⟩ := J.ztt
  have pk1 : ∀ target, Steps p.tables e below (s₁.setTop (mkF m 3 #[.val (.long x), .second] [(.int (lcmpW x (0 : Int64)))])) target → Steps p.tables e below (s₁.setTop (mkF m 0 #[.val (.long x), .second] [])) target := by
    intro target kt
    show Steps p.tables e below (s₁.setTop (mkF m 0 #[.val (.long x), .second] [])) _
    refine XS.lloadN X0.here hx rfl (hb hby d3_0) rfl ?_
    refine XS.lconst X0.here hx rfl (hb hby d3_1) ?_
    refine XS.lcmp X0.here hx rfl (hb hby d3_2) rfl ?_
    exact kt
  by_cases hq1 : (lcmpW x (0 : Int64)) < (0 : Int32)
  · obtain ⟨T2, h2, X2, e2, E2, A2, D2, -, st2⟩ := newO X0 hx hZ hown (own_w hw 15 rfl) (own_w hw 16 rfl) (own_w hw 9 rfl) e0 (g := (mkF m 31 #[.val (.long x), .second] [])) rfl (hb hby d3_31) (by decide) (by decide)
    obtain ⟨b2, gz2⟩ : ∃ z, z = h0.size := ⟨_, rfl⟩
    rw [← gz2] at A2 D2 st2
    have g_b2 : n0 ≤ b2 := Nat.le_trans Z0 (Nat.le_of_eq gz2.symm)
    have sz_b2 : h0.size ≤ b2 := Nat.le_trans (Keep.refl h0 []).1 (Nat.le_of_eq gz2.symm)
    have Z3 : n0 ≤ h2.size := Nat.le_trans Z0 E2.1
    have F_scale_b2 : Fld Z h2 b2 "java/math/BigDecimal" "scale" "I" (.int (0 : Int32)) := D2 (Or.inr (own_w hw 32 rfl)) (ty := .int) (by decide)
    have F_precision_b2 : Fld Z h2 b2 "java/math/BigDecimal" "precision" "I" (.int (0 : Int32)) := D2 (Or.inl (own_w hw 34 rfl)) (ty := .int) (by decide)
    have F_intCompact_b2 : Fld Z h2 b2 "java/math/BigDecimal" "intCompact" "J" (.long (0 : Int64)) := D2 (Or.inr (own_w hw 36 rfl)) (ty := .long) (by decide)
    have F_intVal_b2 : Fld Z h2 b2 "java/math/BigDecimal" "intVal" "Ljava/math/BigInteger;" .null := D2 (Or.inr (own_w hw 38 rfl)) (ty := (.object "java/math/BigInteger")) (by decide)
    obtain ⟨_, _, ⟨T4, L4, k4, n4⟩, -, X4, ⟨Lc4, hQ4, l4, y4, z4⟩, st4⟩ := X2.specialBack hx (y := m_6) rfl hown (mvT hZ (own_w hw 18 rfl)) (mvT hZ (own_w hw 19 rfl)) (mvT hZ (own_w hw 21 rfl)) (by decide) (backOf (W := 1) (rmInN l Z a0 hw [] b2 x (0 : Int32) (0 : Int32)  h2 n0 Z3 A2 g_b2 F_scale_b2 F_precision_b2 F_intCompact_b2 F_intVal_b2) hZ (own_w hw 21 rfl) (own_w hw 9 rfl) (by decide) (by decide)) (g := (mkF m 39 #[.val (.long x), .second] [(.int (0 : Int32)), (.int (0 : Int32)), (.long x), .null, (.ref b2), (.ref b2)])) rfl (by rw [hml]; rfl) (Steps.refl _) (a := b2) (argsL := [.null, (.long x), (.int (0 : Int32)), (.int (0 : Int32))]) (rest := [(.ref b2)]) (lenOf pd_6 rfl) rfl (by show 2 * 0 + _ ≤ _; exact Nat.le_of_eq rfl) (hb hby d3_39) (fun _ _ => ⟨rfl, e2, (by decide : 1 + 0 ≤ _), (by decide : 5 + 0 ≤ _)⟩)
    dsimp only [Pt.U, Pt.locs, Pt.cells, Pt.slots] at X4 l4 y4 z4 st4 hQ4
    subst y4 z4
    obtain ⟨rfl, N4q, K4, B4, P4⟩ := hQ4
    have N4 : Fr n0 L4 := by rw [l4]; exact Fr.app N0 N4q
    have Z5 : n0 ≤ T4.heap.size := Nat.le_trans Z3 K4.1
    obtain ⟨fs, hr, hrun, hended, hW, hsame⟩ := X4.leave (v := some (.ref b2)) (fun h => by rw [Bd.returns] at h; cases h) Bd.notSynchronized
    refine ⟨_, _, pre0 _ ?_, hrun, hended, _, _, rfl, ?_, ⟨_, rfl⟩, hW, hsame.mono (by decide) (by decide)⟩
    · refine pk1 _ ?_
      show Steps p.tables e below (s₁.setTop (mkF m 3 #[.val (.long x), .second] [(.int (lcmpW x (0 : Int64)))])) _
      refine XS.ifYes X0.here hx rfl (pc0 := 3) (pc' := 23) rfl (hb hby d3_3) rfl ((if0 _ _).trans (tlt (hq1 : (lcmpW x (0 : Int64)) < (0 : Int32))).1) (by decide) (by decide) ?_
      refine XS.lloadN X0.here hx rfl (hb hby d3_23) rfl ?_
      refine X0.ldc2Long hx hown (mvT hZ (own_w hw 17 rfl)) (g := (mkF m 24 #[.val (.long x), .second] [(.long x)])) rfl (hb hby d3_24) _ ?_
      refine XS.lcmp X0.here hx rfl (hb hby d3_27) rfl ?_
      refine XS.ifNo X0.here hx rfl (hb hby d3_28) rfl ((if0 _ _).trans (feq (hm : ¬ ((lcmpW x (-9223372036854775808 : Int64)) = (0 : Int32)))).1) ?_
      refine st2 _ ?_
      refine XS.dup X2.here hx rfl (hb hby d3_34) rfl rfl ?_
      refine XS.aconstNull X2.here hx rfl (hb hby d3_35) ?_
      refine XS.lloadN X2.here hx rfl (hb hby d3_36) rfl ?_
      refine XS.iconst X2.here hx rfl (hb hby d3_37) ?_
      refine XS.iconst X2.here hx rfl (hb hby d3_38) ?_
      refine st4.trans ?_
      show Steps p.tables e below (T4.setTop (mkF m 42 #[.val (.long x), .second] [(.ref b2)])) _
      jvm_step X4.here [X4.here.top, hx, (hb hby d3_42), X4.method', Bd.returns, Value.isRef, FieldType.isReference]
      first | (intro acts; rw [hr _ acts rfl rfl rfl]) | rw [hr _ _ rfl rfl rfl]
      exact Steps.refl _
    · show QrmV1 Z x  h0 n0 _ T4.heap _
      exact ⟨b2, rfl, N4, (((Keep.refl h0 []).ext E2).trans K4 (allS (Or.inr sz_b2) all0)), Or.inr sz_b2, B4, fun _ => Or.inl ⟨g_b2, P4⟩⟩
  · have f2 := sS.ext O0.2
    obtain ⟨T3, X3, e3, st3⟩ := getS2 X0 hx hZ hown (host := "") (Or.inl (own_w hw 14 rfl)) Via.refl e0 f2 (g := (mkF m 7 #[.val (.long x), .second] [(.long x)])) rfl (hb hby d3_7)
    have f4 := AS.ext O0.2
    have pk5 : ∀ target, Steps p.tables e below (T3.setTop (mkF m 13 #[.val (.long x), .second] [(.int (lcmpW x ((11 : Int32).toInt64)))])) target → Steps p.tables e below (s₁.setTop (mkF m 0 #[.val (.long x), .second] [])) target := by
      intro target kt
      refine pk1 _ ?_
      show Steps p.tables e below (s₁.setTop (mkF m 3 #[.val (.long x), .second] [(.int (lcmpW x (0 : Int64)))])) _
      refine XS.ifNo X0.here hx rfl (hb hby d3_3) rfl ((if0 _ _).trans (flt (hq1 : ¬ ((lcmpW x (0 : Int64)) < (0 : Int32)))).1) ?_
      refine XS.lloadN X0.here hx rfl (hb hby d3_6) rfl ?_
      refine st3 _ ?_
      refine X3.arraylength hx (cell := cS) (by rw [e3]; exact f4.1) (State.isArrayOf_alike hZ.alike f4.2.1) (g := (mkF m 10 #[.val (.long x), .second] [(.ref aS), (.long x)])) rfl (rest := [(.long x)]) rfl (hb hby d3_10) _ ?_
      rw [len_of (zS.trans (by decide) : _ = (11 : Int32).toNatClampNeg) (by decide : ¬ (11 : Int32) < 0)]
      refine XS.i2l X3.here hx rfl (hb hby d3_11) rfl ?_
      refine XS.lcmp X3.here hx rfl (hb hby d3_12) rfl ?_
      exact kt
    by_cases hq2 : (lcmpW x ((11 : Int32).toInt64)) < (0 : Int32)
    · obtain ⟨ee1, ee2, ee3⟩ := own_ofl (own_l0 hq1) (own_l11 hq2)
      obtain ⟨bz, hz, Bz, Pz⟩ := HS _ (own_cl ee2 ee3)
      have zd := own_zd ⟨x.toInt32.toNatClampNeg, own_cl ee2 ee3⟩
      simp only at zd
      rw [ee1] at Bz zd
      obtain ⟨T6, X6, e6, st6⟩ := getS2 X3 hx hZ hown (host := "") (Or.inl (own_w hw 14 rfl)) Via.refl e3 f2 (g := (mkF m 16 #[.val (.long x), .second] [])) rfl (hb hby d3_16)
      have f7 := AS.ext O0.2
      obtain ⟨fs, hr, hrun, hended, hW, hsame⟩ := X6.leave (v := some (.ref bz)) (fun h => by rw [Bd.returns] at h; cases h) Bd.notSynchronized
      refine ⟨_, _, pre0 _ ?_, hrun, hended, _, _, rfl, ?_, ⟨_, rfl⟩, hW, hsame.mono (by decide) (by decide)⟩
      · refine pk5 _ ?_
        show Steps p.tables e below (T3.setTop (mkF m 13 #[.val (.long x), .second] [(.int (lcmpW x ((11 : Int32).toInt64)))])) _
        refine XS.ifNo X3.here hx rfl (hb hby d3_13) rfl ((if0 _ _).trans (tlt (hq2 : (lcmpW x ((11 : Int32).toInt64)) < (0 : Int32))).2.1) ?_
        refine st6 _ ?_
        refine XS.lloadN X6.here hx rfl (hb hby d3_19) rfl ?_
        refine XS.l2i X6.here hx rfl (hb hby d3_20) rfl ?_
        refine X6.aaload hx (j := (x.toInt32)) (v := (.ref bz)) (by rw [e6]; exact f7.1) (State.isArrayOf_alike hZ.alike f7.2.1) rfl f7.2.2 (own_in zS ee2 ee3) hz (g := (mkF m 21 #[.val (.long x), .second] [(.int (x.toInt32)), (.ref aS)])) rfl rfl (hb hby d3_21) _ ?_
        show Steps p.tables e below (T6.setTop (mkF m 22 #[.val (.long x), .second] [(.ref bz)])) _
        jvm_step X6.here [X6.here.top, hx, (hb hby d3_22), X6.method', Bd.returns, Value.isRef, FieldType.isReference]
        first | (intro acts; rw [hr _ acts rfl rfl rfl]) | rw [hr _ _ rfl rfl rfl]
        exact Steps.refl _
      · show QrmV1 Z x  h0 n0 _ T6.heap _
        rw [e6]
        exact ⟨bz, rfl, N0, Keep.refl _ _, Or.inl (O0.1 ▸ Bz.1.lt), Bz.ext O0.2, fun q => Or.inr ⟨_, (zd fun y => q (by rw [← ee1, y]; rfl)).2, (zd fun y => q (by rw [← ee1, y]; rfl)).1, Fld.ext O0.2 Pz⟩⟩
    · obtain ⟨T6, h6, X6, e6, E6, A6, D6, -, st6⟩ := newO X3 hx hZ hown (own_w hw 15 rfl) (own_w hw 16 rfl) (own_w hw 9 rfl) e3 (g := (mkF m 31 #[.val (.long x), .second] [])) rfl (hb hby d3_31) (by decide) (by decide)
      obtain ⟨b6, gz6⟩ : ∃ z, z = h0.size := ⟨_, rfl⟩
      rw [← gz6] at A6 D6 st6
      have g_b6 : n0 ≤ b6 := Nat.le_trans Z0 (Nat.le_of_eq gz6.symm)
      have sz_b6 : h0.size ≤ b6 := Nat.le_trans (Keep.refl h0 []).1 (Nat.le_of_eq gz6.symm)
      have Z7 : n0 ≤ h6.size := Nat.le_trans Z0 E6.1
      have F_scale_b6 : Fld Z h6 b6 "java/math/BigDecimal" "scale" "I" (.int (0 : Int32)) := D6 (Or.inr (own_w hw 32 rfl)) (ty := .int) (by decide)
      have F_precision_b6 : Fld Z h6 b6 "java/math/BigDecimal" "precision" "I" (.int (0 : Int32)) := D6 (Or.inl (own_w hw 34 rfl)) (ty := .int) (by decide)
      have F_intCompact_b6 : Fld Z h6 b6 "java/math/BigDecimal" "intCompact" "J" (.long (0 : Int64)) := D6 (Or.inr (own_w hw 36 rfl)) (ty := .long) (by decide)
      have F_intVal_b6 : Fld Z h6 b6 "java/math/BigDecimal" "intVal" "Ljava/math/BigInteger;" .null := D6 (Or.inr (own_w hw 38 rfl)) (ty := (.object "java/math/BigInteger")) (by decide)
      obtain ⟨_, _, ⟨T8, L8, k8, n8⟩, -, X8, ⟨Lc8, hQ8, l8, y8, z8⟩, st8⟩ := X6.specialBack hx (y := m_6) rfl hown (mvT hZ (own_w hw 18 rfl)) (mvT hZ (own_w hw 19 rfl)) (mvT hZ (own_w hw 21 rfl)) (by decide) (backOf (W := 1) (rmInN l Z a0 hw [] b6 x (0 : Int32) (0 : Int32)  h6 n0 Z7 A6 g_b6 F_scale_b6 F_precision_b6 F_intCompact_b6 F_intVal_b6) hZ (own_w hw 21 rfl) (own_w hw 9 rfl) (by decide) (by decide)) (g := (mkF m 39 #[.val (.long x), .second] [(.int (0 : Int32)), (.int (0 : Int32)), (.long x), .null, (.ref b6), (.ref b6)])) rfl (by rw [hml]; rfl) (Steps.refl _) (a := b6) (argsL := [.null, (.long x), (.int (0 : Int32)), (.int (0 : Int32))]) (rest := [(.ref b6)]) (lenOf pd_6 rfl) rfl (by show 2 * 0 + _ ≤ _; exact Nat.le_of_eq rfl) (hb hby d3_39) (fun _ _ => ⟨rfl, e6, (by decide : 1 + 0 ≤ _), (by decide : 5 + 0 ≤ _)⟩)
      dsimp only [Pt.U, Pt.locs, Pt.cells, Pt.slots] at X8 l8 y8 z8 st8 hQ8
      subst y8 z8
      obtain ⟨rfl, N8q, K8, B8, P8⟩ := hQ8
      have N8 : Fr n0 L8 := by rw [l8]; exact Fr.app N0 N8q
      have Z9 : n0 ≤ T8.heap.size := Nat.le_trans Z7 K8.1
      obtain ⟨fs, hr, hrun, hended, hW, hsame⟩ := X8.leave (v := some (.ref b6)) (fun h => by rw [Bd.returns] at h; cases h) Bd.notSynchronized
      refine ⟨_, _, pre0 _ ?_, hrun, hended, _, _, rfl, ?_, ⟨_, rfl⟩, hW, hsame.mono (by decide) (by decide)⟩
      · refine pk5 _ ?_
        show Steps p.tables e below (T3.setTop (mkF m 13 #[.val (.long x), .second] [(.int (lcmpW x ((11 : Int32).toInt64)))])) _
        refine XS.ifYes X3.here hx rfl (pc0 := 13) (pc' := 23) rfl (hb hby d3_13) rfl ((if0 _ _).trans (flt (hq2 : ¬ ((lcmpW x ((11 : Int32).toInt64)) < (0 : Int32)))).2.1) (by decide) (by decide) ?_
        refine XS.lloadN X3.here hx rfl (hb hby d3_23) rfl ?_
        refine X3.ldc2Long hx hown (mvT hZ (own_w hw 17 rfl)) (g := (mkF m 24 #[.val (.long x), .second] [(.long x)])) rfl (hb hby d3_24) _ ?_
        refine XS.lcmp X3.here hx rfl (hb hby d3_27) rfl ?_
        refine XS.ifNo X3.here hx rfl (hb hby d3_28) rfl ((if0 _ _).trans (feq (hm : ¬ ((lcmpW x (-9223372036854775808 : Int64)) = (0 : Int32)))).1) ?_
        refine st6 _ ?_
        refine XS.dup X6.here hx rfl (hb hby d3_34) rfl rfl ?_
        refine XS.aconstNull X6.here hx rfl (hb hby d3_35) ?_
        refine XS.lloadN X6.here hx rfl (hb hby d3_36) rfl ?_
        refine XS.iconst X6.here hx rfl (hb hby d3_37) ?_
        refine XS.iconst X6.here hx rfl (hb hby d3_38) ?_
        refine st8.trans ?_
        show Steps p.tables e below (T8.setTop (mkF m 42 #[.val (.long x), .second] [(.ref b6)])) _
        jvm_step X8.here [X8.here.top, hx, (hb hby d3_42), X8.method', Bd.returns, Value.isRef, FieldType.isReference]
        first | (intro acts; rw [hr _ acts rfl rfl rfl]) | rw [hr _ _ rfl rfl rfl]
        exact Steps.refl _
      · show QrmV1 Z x  h0 n0 _ T8.heap _
        exact ⟨b6, rfl, N8, (((Keep.refl h0 []).ext E6).trans K8 (allS (Or.inr sz_b6) all0)), Or.inr sz_b6, B8, fun _ => Or.inl ⟨g_b6, P8⟩⟩
theorem d2_0 : decode c_11 0 = .ok (.iload_n 2, 1) := by decide +kernel
theorem d2_1 : decode c_11 1 = .ok (.ifCond .ne 8, 3) := by decide +kernel
theorem d2_4 : decode c_11 4 = .ok (.lload_n 0, 1) := by decide +kernel
theorem d2_5 : decode c_11 5 = .ok (.invokestatic 236, 3) := by decide +kernel
theorem pd_7 : parseMethodDescriptor "(J)Ljava/math/BigDecimal;" = some ⟨[.long], some (.object "java/math/BigDecimal")⟩ := by decide +kernel
theorem d2_8 : decode c_11 8 = .ok (.areturn, 1) := by decide +kernel
theorem d2_9 : decode c_11 9 = .ok (.lload_n 0, 1) := by decide +kernel
theorem d2_10 : decode c_11 10 = .ok (.lconst 0, 1) := by decide +kernel
theorem d2_11 : decode c_11 11 = .ok (.lcmp, 1) := by decide +kernel
theorem d2_12 : decode c_11 12 = .ok (.ifCond .ne 8, 3) := by decide +kernel
theorem d2_15 : decode c_11 15 = .ok (.iload_n 2, 1) := by decide +kernel
theorem d2_16 : decode c_11 16 = .ok (.invokestatic 239, 3) := by decide +kernel
theorem pd_8 : parseMethodDescriptor "(I)Ljava/math/BigDecimal;" = some ⟨[.int], some (.object "java/math/BigDecimal")⟩ := by decide +kernel
theorem d2_19 : decode c_11 19 = .ok (.areturn, 1) := by decide +kernel
theorem d2_20 : decode c_11 20 = .ok (.new 3, 3) := by decide +kernel
theorem d2_23 : decode c_11 23 = .ok (.dup, 1) := by decide +kernel
theorem d2_24 : decode c_11 24 = .ok (.lload_n 0, 1) := by decide +kernel
theorem d2_25 : decode c_11 25 = .ok (.ldc2_w 125, 3) := by decide +kernel
theorem d2_28 : decode c_11 28 = .ok (.lcmp, 1) := by decide +kernel
theorem d2_29 : decode c_11 29 = .ok (.ifCond .ne 9, 3) := by decide +kernel
theorem d2_38 : decode c_11 38 = .ok (.aconst_null, 1) := by decide +kernel
theorem d2_39 : decode c_11 39 = .ok (.lload_n 0, 1) := by decide +kernel
theorem d2_40 : decode c_11 40 = .ok (.iload_n 2, 1) := by decide +kernel
theorem d2_41 : decode c_11 41 = .ok (.iconst 0, 1) := by decide +kernel
theorem d2_42 : decode c_11 42 = .ok (.invokespecial 243, 3) := by decide +kernel
theorem d2_45 : decode c_11 45 = .ok (.areturn, 1) := by decide +kernel
theorem ef_rmV2 (m : MethodId) (x0 : Int64) (x1 : Int32) : entryFrame m #[(.long x0), (.int x1)] 3 = mkF m 0 #[.val (.long x0), .second, .val (.int x1)] [] := by first | (simp [entryFrame, mkF, argsToLocals, Value.category]; done) | rfl
def QrmV2 (Z : State) (x : Int64) (sc : Int32)  (h0 : Heap) (n0 : Nat) (v : Option Value) (h : Heap) (L : List Loc) : Prop := ∃ b, v = some (.ref b) ∧ Fr n0 L ∧ own_QB Z h0 h n0 b sc x
theorem rmV2 (l : Launch) (Z : State) (a0 : Array Value) (hw : ∀ d ∈ tables_1, d.before a0 Z = true) (ws : List Jvm.Cond) (x : Int64) (sc : Int32)  (h0 : Heap) (n0 : Nat) (Z0 : n0 ≤ h0.size) (J : own_J Z) (O0 : Old Z n0 h0) (hm : ¬ (lcmpW x (-9223372036854775808 : Int64) = (0 : Int32))) (hi1 : sc.toInt < (16 : Nat)) :
    MetFree l m_0 (head1 (Jvm.Cond.code m_0 jdk_17_method_20_code 3 (some (.object "java/math/BigDecimal")) :: ws) ({ frames := 4, cells := 1, slots := 5, locals := 55 } : Room)) (fun a U => a = #[(.long x), (.int sc)] ∧ Z.Warmed39 U.vm ∧ U.heap = h0) (fun _ _ _ _ _ => True) (fun _ U o U' => ∃ v L, o = .returned v ∧ QrmV2 Z x sc  h0 n0 v U'.heap L ∧ FrameEnd U o U' L ({ frames := 4, cells := 1, slots := 5, locals := 55 } : Room).cells ({ frames := 4, cells := 1, slots := 5, locals := 55 } : Room).slots) := by
  refine MetFree.of_bodySF (plainFor_of_name pn_java_math_BigDecimal) hisR ?_
  intro p e s m args below meth c s₁ Bd hml0 hP hK
  obtain ⟨rfl, hZ, hh⟩ := hP
  have hx := Bd.exec
  have hby := Bd.bytes
  have hml : c.maxLocals = 3 := hml0
  have hown : s.vm.findClass "java/math/BigDecimal" = some m.cls := findClass_of_methodNamed Bd.named
  have hnm := (name_of_methodNamed Bd.named Bd.method).1
  have X0 : Stand p l e ({ frames := 4, cells := 1, slots := 5, locals := 55 } : Room) s m #[(.long x), (.int sc)] below meth c s₁ [] 0 0 := Stand.of_body Bd
  have e0 : s₁.heap = h0 := by rw [← hh, Bd.state]; rfl
  have N0 := Fr.nil n0
  have pre0 : ∀ t, Steps p.tables e below (s₁.setTop (mkF m 0 #[.val (.long x), .second, .val (.int sc)] [])) t → Steps p.tables e below (s₁.setTop (entryFrame m #[(.long x), (.int sc)] 3)) t := fun t k => castTop (ef_rmV2 m x sc) k
  by_cases hq1 : sc = (0 : Int32)
  · obtain ⟨_, _, ⟨T1, L1, k1, n1⟩, -, X1, ⟨Lc1, hQ1, l1, y1, z1⟩, st1⟩ := Jvm.LawKit.callS X0 hx (y := m_36) hown (mvT hZ (own_w hw 11 rfl)) (mvT hZ (own_w hw 12 rfl)) (mvT hZ (own_w hw 9 rfl)) (mvT hZ (own_w hw 13 rfl)) (by decide) (backOf (W := 0) (rmV1 l Z a0 hw [] x  h0 n0 Z0 J O0 hm) hZ (own_w hw 13 rfl) (own_w hw 9 rfl) (by decide) (by decide)) (g := (mkF m 5 #[.val (.long x), .second, .val (.int sc)] [(.long x)])) rfl (by rw [hml]; rfl) (argsL := [(.long x)]) (rest := []) (lenOf pd_7 rfl) rfl (by show 2 * 0 + _ ≤ _; exact Nat.le_of_eq rfl) (hb hby d2_5) (fun _ _ => ⟨rfl, e0, (by decide : 0 + 1 ≤ _), (by decide : 0 + 5 ≤ _)⟩)
    dsimp only [Pt.U, Pt.locs, Pt.cells, Pt.slots] at X1 l1 y1 z1 st1 hQ1
    subst y1 z1
    obtain ⟨b1, rfl, N1q, K1, q1, B1, P1⟩ := hQ1
    have N1 : Fr n0 L1 := by rw [l1]; exact Fr.app N0 N1q
    have Z2 : n0 ≤ T1.heap.size := Nat.le_trans Z0 K1.1
    obtain ⟨fs, hr, hrun, hended, hW, hsame⟩ := X1.leave (v := some (.ref b1)) (fun h => by rw [Bd.returns] at h; cases h) Bd.notSynchronized
    refine ⟨_, _, pre0 _ ?_, hrun, hended, _, _, rfl, ?_, ⟨_, rfl⟩, hW, hsame.mono (by decide) (by decide)⟩
    · show Steps p.tables e below (s₁.setTop (mkF m 0 #[.val (.long x), .second, .val (.int sc)] [])) _
      refine XS.iloadN X0.here hx rfl (hb hby d2_0) rfl ?_
      refine XS.ifNo X0.here hx rfl (hb hby d2_1) rfl ((if0 _ _).trans (teq (hq1 : sc = (0 : Int32))).2) ?_
      refine XS.lloadN X0.here hx rfl (hb hby d2_4) rfl ?_
      refine st1 _ ?_
      show Steps p.tables e below (T1.setTop (mkF m 8 #[.val (.long x), .second, .val (.int sc)] [(.ref b1)])) _
      jvm_step X1.here [X1.here.top, hx, (hb hby d2_8), X1.method', Bd.returns, Value.isRef, FieldType.isReference]
      first | (intro acts; rw [hr _ acts rfl rfl rfl]) | rw [hr _ _ rfl rfl rfl]
      exact Steps.refl _
    · show QrmV2 Z x sc  h0 n0 _ T1.heap _
      exact ⟨b1, rfl, N1, by rw [hq1]; exact ⟨K1, q1, B1, P1⟩⟩
  · have pk1 : ∀ target, Steps p.tables e below (s₁.setTop (mkF m 12 #[.val (.long x), .second, .val (.int sc)] [(.int (lcmpW x (0 : Int64)))])) target → Steps p.tables e below (s₁.setTop (mkF m 0 #[.val (.long x), .second, .val (.int sc)] [])) target := by
      intro target kt
      show Steps p.tables e below (s₁.setTop (mkF m 0 #[.val (.long x), .second, .val (.int sc)] [])) _
      refine XS.iloadN X0.here hx rfl (hb hby d2_0) rfl ?_
      refine XS.ifYes X0.here hx rfl (pc0 := 1) (pc' := 9) rfl (hb hby d2_1) rfl ((if0 _ _).trans (feq (hq1 : ¬ (sc = (0 : Int32)))).2) (by decide) (by decide) ?_
      refine XS.lloadN X0.here hx rfl (hb hby d2_9) rfl ?_
      refine XS.lconst X0.here hx rfl (hb hby d2_10) ?_
      refine XS.lcmp X0.here hx rfl (hb hby d2_11) rfl ?_
      exact kt
    by_cases hq2 : (lcmpW x (0 : Int64)) = (0 : Int32)
    · obtain ⟨_, _, ⟨T2, L2, k2, n2⟩, -, X2, ⟨Lc2, hQ2, l2, y2, z2⟩, st2⟩ := Jvm.LawKit.callS X0 hx (y := m_26) hown (mvT hZ (own_w hw 224 rfl)) (mvT hZ (own_w hw 225 rfl)) (mvT hZ (own_w hw 9 rfl)) (mvT hZ (own_w hw 226 rfl)) (by decide) (backOf (W := 0) (rmZv l Z a0 hw [] sc  h0 n0 Z0 J O0 hi1) hZ (own_w hw 226 rfl) (own_w hw 9 rfl) (by decide) (by decide)) (g := (mkF m 16 #[.val (.long x), .second, .val (.int sc)] [(.int sc)])) rfl (by rw [hml]; rfl) (argsL := [(.int sc)]) (rest := []) (lenOf pd_8 rfl) rfl (by show 2 * 0 + _ ≤ _; exact Nat.le_of_eq rfl) (hb hby d2_16) (fun _ _ => ⟨rfl, e0, (by decide : 0 + 1 ≤ _), (by decide : 0 + 5 ≤ _)⟩)
      dsimp only [Pt.U, Pt.locs, Pt.cells, Pt.slots] at X2 l2 y2 z2 st2 hQ2
      subst y2 z2
      obtain ⟨b2, rfl, N2q, K2, q2, B2, P2⟩ := hQ2
      have N2 : Fr n0 L2 := by rw [l2]; exact Fr.app N0 N2q
      have Z3 : n0 ≤ T2.heap.size := Nat.le_trans Z0 K2.1
      obtain ⟨fs, hr, hrun, hended, hW, hsame⟩ := X2.leave (v := some (.ref b2)) (fun h => by rw [Bd.returns] at h; cases h) Bd.notSynchronized
      refine ⟨_, _, pre0 _ ?_, hrun, hended, _, _, rfl, ?_, ⟨_, rfl⟩, hW, hsame.mono (by decide) (by decide)⟩
      · refine pk1 _ ?_
        show Steps p.tables e below (s₁.setTop (mkF m 12 #[.val (.long x), .second, .val (.int sc)] [(.int (lcmpW x (0 : Int64)))])) _
        refine XS.ifNo X0.here hx rfl (hb hby d2_12) rfl ((if0 _ _).trans (teq (hq2 : (lcmpW x (0 : Int64)) = (0 : Int32))).2) ?_
        refine XS.iloadN X0.here hx rfl (hb hby d2_15) rfl ?_
        refine st2 _ ?_
        show Steps p.tables e below (T2.setTop (mkF m 19 #[.val (.long x), .second, .val (.int sc)] [(.ref b2)])) _
        jvm_step X2.here [X2.here.top, hx, (hb hby d2_19), X2.method', Bd.returns, Value.isRef, FieldType.isReference]
        first | (intro acts; rw [hr _ acts rfl rfl rfl]) | rw [hr _ _ rfl rfl rfl]
        exact Steps.refl _
      · show QrmV2 Z x sc  h0 n0 _ T2.heap _
        exact ⟨b2, rfl, N2, by rw [(lw_eq x 0).mp hq2]; exact ⟨K2, q2, B2, P2⟩⟩
    · obtain ⟨T2, h2, X2, e2, E2, A2, D2, -, st2⟩ := newO X0 hx hZ hown (own_w hw 15 rfl) (own_w hw 16 rfl) (own_w hw 9 rfl) e0 (g := (mkF m 20 #[.val (.long x), .second, .val (.int sc)] [])) rfl (hb hby d2_20) (by decide) (by decide)
      obtain ⟨b2, gz2⟩ : ∃ z, z = h0.size := ⟨_, rfl⟩
      rw [← gz2] at A2 D2 st2
      have g_b2 : n0 ≤ b2 := Nat.le_trans Z0 (Nat.le_of_eq gz2.symm)
      have sz_b2 : h0.size ≤ b2 := Nat.le_trans (Keep.refl h0 []).1 (Nat.le_of_eq gz2.symm)
      have Z3 : n0 ≤ h2.size := Nat.le_trans Z0 E2.1
      have F_scale_b2 : Fld Z h2 b2 "java/math/BigDecimal" "scale" "I" (.int (0 : Int32)) := D2 (Or.inr (own_w hw 32 rfl)) (ty := .int) (by decide)
      have F_precision_b2 : Fld Z h2 b2 "java/math/BigDecimal" "precision" "I" (.int (0 : Int32)) := D2 (Or.inl (own_w hw 34 rfl)) (ty := .int) (by decide)
      have F_intCompact_b2 : Fld Z h2 b2 "java/math/BigDecimal" "intCompact" "J" (.long (0 : Int64)) := D2 (Or.inr (own_w hw 36 rfl)) (ty := .long) (by decide)
      have F_intVal_b2 : Fld Z h2 b2 "java/math/BigDecimal" "intVal" "Ljava/math/BigInteger;" .null := D2 (Or.inr (own_w hw 38 rfl)) (ty := (.object "java/math/BigInteger")) (by decide)
      obtain ⟨_, _, ⟨T4, L4, k4, n4⟩, -, X4, ⟨Lc4, hQ4, l4, y4, z4⟩, st4⟩ := X2.specialBack hx (y := m_6) rfl hown (mvT hZ (own_w hw 18 rfl)) (mvT hZ (own_w hw 19 rfl)) (mvT hZ (own_w hw 21 rfl)) (by decide) (backOf (W := 1) (rmInN l Z a0 hw [] b2 x sc (0 : Int32)  h2 n0 Z3 A2 g_b2 F_scale_b2 F_precision_b2 F_intCompact_b2 F_intVal_b2) hZ (own_w hw 21 rfl) (own_w hw 9 rfl) (by decide) (by decide)) (g := (mkF m 42 #[.val (.long x), .second, .val (.int sc)] [(.int (0 : Int32)), (.int sc), (.long x), .null, (.ref b2), (.ref b2)])) rfl (by rw [hml]; rfl) (Steps.refl _) (a := b2) (argsL := [.null, (.long x), (.int sc), (.int (0 : Int32))]) (rest := [(.ref b2)]) (lenOf pd_6 rfl) rfl (by show 2 * 0 + _ ≤ _; exact Nat.le_of_eq rfl) (hb hby d2_42) (fun _ _ => ⟨rfl, e2, (by decide : 1 + 0 ≤ _), (by decide : 5 + 0 ≤ _)⟩)
      dsimp only [Pt.U, Pt.locs, Pt.cells, Pt.slots] at X4 l4 y4 z4 st4 hQ4
      subst y4 z4
      obtain ⟨rfl, N4q, K4, B4, P4⟩ := hQ4
      have N4 : Fr n0 L4 := by rw [l4]; exact Fr.app N0 N4q
      have Z5 : n0 ≤ T4.heap.size := Nat.le_trans Z3 K4.1
      obtain ⟨fs, hr, hrun, hended, hW, hsame⟩ := X4.leave (v := some (.ref b2)) (fun h => by rw [Bd.returns] at h; cases h) Bd.notSynchronized
      refine ⟨_, _, pre0 _ ?_, hrun, hended, _, _, rfl, ?_, ⟨_, rfl⟩, hW, hsame.mono (by decide) (by decide)⟩
      · refine pk1 _ ?_
        show Steps p.tables e below (s₁.setTop (mkF m 12 #[.val (.long x), .second, .val (.int sc)] [(.int (lcmpW x (0 : Int64)))])) _
        refine XS.ifYes X0.here hx rfl (pc0 := 12) (pc' := 20) rfl (hb hby d2_12) rfl ((if0 _ _).trans (feq (hq2 : ¬ ((lcmpW x (0 : Int64)) = (0 : Int32)))).2) (by decide) (by decide) ?_
        refine st2 _ ?_
        refine XS.dup X2.here hx rfl (hb hby d2_23) rfl rfl ?_
        refine XS.lloadN X2.here hx rfl (hb hby d2_24) rfl ?_
        refine X2.ldc2Long hx hown (mvT hZ (own_w hw 17 rfl)) (g := (mkF m 25 #[.val (.long x), .second, .val (.int sc)] [(.long x), (.ref b2), (.ref b2)])) rfl (hb hby d2_25) _ ?_
        refine XS.lcmp X2.here hx rfl (hb hby d2_28) rfl ?_
        refine XS.ifYes X2.here hx rfl (pc0 := 29) (pc' := 38) rfl (hb hby d2_29) rfl ((if0 _ _).trans (feq (hm : ¬ ((lcmpW x (-9223372036854775808 : Int64)) = (0 : Int32)))).2) (by decide) (by decide) ?_
        refine XS.aconstNull X2.here hx rfl (hb hby d2_38) ?_
        refine XS.lloadN X2.here hx rfl (hb hby d2_39) rfl ?_
        refine XS.iloadN X2.here hx rfl (hb hby d2_40) rfl ?_
        refine XS.iconst X2.here hx rfl (hb hby d2_41) ?_
        refine st4.trans ?_
        show Steps p.tables e below (T4.setTop (mkF m 45 #[.val (.long x), .second, .val (.int sc)] [(.ref b2)])) _
        jvm_step X4.here [X4.here.top, hx, (hb hby d2_45), X4.method', Bd.returns, Value.isRef, FieldType.isReference]
        first | (intro acts; rw [hr _ acts rfl rfl rfl]) | rw [hr _ _ rfl rfl rfl]
        exact Steps.refl _
      · show QrmV2 Z x sc  h0 n0 _ T4.heap _
        exact ⟨b2, rfl, N4, (((Keep.refl h0 []).ext E2).trans K4 (allS (Or.inr sz_b2) all0)), Or.inr sz_b2, B4, fun _ => Or.inl ⟨g_b2, P4⟩⟩
def own_S8 (s : Int32) : Prop := -2 ≤ s.toInt ∧ s.toInt ≤ 5
def own_B16 (x : Int64) : Prop := -21474836480000000 ≤ x.toInt ∧ x.toInt ≤ 21474836480000000
def own_X (x : Int64) : Prop := -2147483648 ≤ x.toInt ∧ x.toInt ≤ 2147483647
theorem own_X.b {x : Int64} (h : own_X x) : own_B16 x := ⟨by have := h.1; omega, by have := h.2; omega⟩
theorem own_B16.h {x : Int64} (h : own_B16 x) : own_HB x := ⟨by have := h.1; omega, by have := h.2; omega⟩
theorem own_dk {s p : Int32} (hs : own_S8 s) (hp : own_S8 p) : ((s.toInt64) - (p.toInt64)).toInt32 = s - p ∧ ((s.toInt64) - (p.toInt64)).toInt32.toInt64 = ((s.toInt64) - (p.toInt64)) ∧ ((s.toInt64) - (p.toInt64)).toInt = s.toInt - p.toInt ∧ (s - p).toInt = s.toInt - p.toInt := by
  have a := c_i2l s; have b := c_i2l p; obtain ⟨hs1, hs2⟩ := hs; obtain ⟨hp1, hp2⟩ := hp
  have c := c_lsub s.toInt64 p.toInt64; have c1 := Int64.toInt_lt (s.toInt64 - p.toInt64); have c2 := Int64.le_toInt (s.toInt64 - p.toInt64)
  have d := c_l2i (s.toInt64 - p.toInt64); have d1 := Int32.toInt_lt (s.toInt64 - p.toInt64).toInt32; have d2 := Int32.le_toInt (s.toInt64 - p.toInt64).toInt32
  have e := c_isub s p; have e1 := Int32.toInt_lt (s - p); have e2 := Int32.le_toInt (s - p)
  refine ⟨Int32.toInt_inj.mp (by omega), Int64.toInt_inj.mp ?_, by omega, by omega⟩
  rw [c_i2l]; omega
theorem own_dn {s p : Int32} (hs : own_S8 s) (hp : own_S8 p) : (-((s.toInt64) - (p.toInt64))).toInt32 = p - s ∧ (-((s.toInt64) - (p.toInt64))).toInt32.toInt64 = (-((s.toInt64) - (p.toInt64))) := by
  obtain ⟨q1, q2, q3, q4⟩ := own_dk hs hp
  obtain ⟨r1, r2, r3, r4⟩ := own_dk hp hs
  have n := c_lneg (s.toInt64 - p.toInt64)
  have n1 := Int64.toInt_lt (-(s.toInt64 - p.toInt64)); have n2 := Int64.le_toInt (-(s.toInt64 - p.toInt64))
  obtain ⟨hs1, hs2⟩ := hs; obtain ⟨hp1, hp2⟩ := hp
  have e : -((s.toInt64) - (p.toInt64)) = (p.toInt64 - s.toInt64) := Int64.toInt_inj.mp (by omega)
  rw [e]
  exact ⟨r1, r2⟩
theorem own_pwv {k : Int32} (h0 : 0 ≤ k.toInt) (h1 : k.toInt ≤ 7) : (k.toInt = 0 ∧ (own_pw k).toInt = 1) ∨ (k.toInt = 1 ∧ (own_pw k).toInt = 10) ∨ (k.toInt = 2 ∧ (own_pw k).toInt = 100) ∨ (k.toInt = 3 ∧ (own_pw k).toInt = 1000) ∨ (k.toInt = 4 ∧ (own_pw k).toInt = 10000) ∨ (k.toInt = 5 ∧ (own_pw k).toInt = 100000) ∨ (k.toInt = 6 ∧ (own_pw k).toInt = 1000000) ∨ (k.toInt = 7 ∧ (own_pw k).toInt = 10000000) := by
  rcases own_k8 h0 h1 with rfl | rfl | rfl | rfl | rfl | rfl | rfl | rfl <;> decide
def own_MB (x : Int64) (k : Int32) : Prop := -9223372036854775807 ≤ x.toInt * (own_pw k).toInt ∧ x.toInt * (own_pw k).toInt ≤ 9223372036854775807
theorem own_hbd {x : Int64} {k : Int32} (h0 : 0 ≤ k.toInt) (h1 : k.toInt ≤ 7) (hx : -9223372036854775808 < x.toInt) (h : own_MB x k) : ¬ ((0 : Int32) < lcmpW (own_abs x) (own_th k)) := by
  obtain ⟨ha, hb⟩ := h
  rw [lw_gt, Int64.lt_iff_toInt_lt, own_abs_i x hx]
  rcases own_k8 h0 h1 with rfl | rfl | rfl | rfl | rfl | rfl | rfl | rfl
  · rw [show (own_pw 0).toInt = 1 by decide] at ha hb; rw [show (own_th 0).toInt = 9223372036854775807 by decide]; omega
  · rw [show (own_pw 1).toInt = 10 by decide] at ha hb; rw [show (own_th 1).toInt = 922337203685477580 by decide]; omega
  · rw [show (own_pw 2).toInt = 100 by decide] at ha hb; rw [show (own_th 2).toInt = 92233720368547758 by decide]; omega
  · rw [show (own_pw 3).toInt = 1000 by decide] at ha hb; rw [show (own_th 3).toInt = 9223372036854775 by decide]; omega
  · rw [show (own_pw 4).toInt = 10000 by decide] at ha hb; rw [show (own_th 4).toInt = 922337203685477 by decide]; omega
  · rw [show (own_pw 5).toInt = 100000 by decide] at ha hb; rw [show (own_th 5).toInt = 92233720368547 by decide]; omega
  · rw [show (own_pw 6).toInt = 1000000 by decide] at ha hb; rw [show (own_th 6).toInt = 9223372036854 by decide]; omega
  · rw [show (own_pw 7).toInt = 10000000 by decide] at ha hb; rw [show (own_th 7).toInt = 922337203685 by decide]; omega
theorem own_mul {x : Int64} {k : Int32} (h : own_MB x k) : (x * own_pw k).toInt = x.toInt * (own_pw k).toInt := by
  have a := c_lmul x (own_pw k); have b := Int64.toInt_lt (x * own_pw k); have c := Int64.le_toInt (x * own_pw k); obtain ⟨h1, h2⟩ := h
  omega
theorem own_mulX {x : Int64} {k : Int32} (h0 : 0 ≤ k.toInt) (h1 : k.toInt ≤ 7) (hx : own_X x) : own_MB x k ∧ own_B16 (x * own_pw k) := by
  obtain ⟨hx1, hx2⟩ := hx
  have m : own_MB x k := by
    unfold own_MB
    rcases own_pwv h0 h1 with ⟨-, q⟩ | ⟨-, q⟩ | ⟨-, q⟩ | ⟨-, q⟩ | ⟨-, q⟩ | ⟨-, q⟩ | ⟨-, q⟩ | ⟨-, q⟩ <;> rw [q] <;> omega
  refine ⟨m, ?_⟩
  unfold own_B16
  rw [own_mul m]
  rcases own_pwv h0 h1 with ⟨-, q⟩ | ⟨-, q⟩ | ⟨-, q⟩ | ⟨-, q⟩ | ⟨-, q⟩ | ⟨-, q⟩ | ⟨-, q⟩ | ⟨-, q⟩ <;> rw [q] <;> omega
theorem own_add {x y : Int64} (hx : own_B16 x) (hy : own_B16 y) : (x + y).toInt = x.toInt + y.toInt ∧ own_HB (x + y) ∧ ¬ (lcmpW (((x + y) ^^^ x) &&& ((x + y) ^^^ y)) (0 : Int64) < (0 : Int32)) := by
  obtain ⟨hx1, hx2⟩ := hx; obtain ⟨hy1, hy2⟩ := hy
  have a := c_ladd x y; have b := Int64.toInt_lt (x + y); have c := Int64.le_toInt (x + y)
  have e : (x + y).toInt = x.toInt + y.toInt := by omega
  have k0 : (0 : Int64).toInt = 0 := rfl
  refine ⟨e, ⟨by omega, by omega⟩, ?_⟩
  rw [lw_lt, Int64.lt_iff_toInt_lt]
  have s1 := c_xorSL (x + y) x; have s2 := c_xorSL (x + y) y; have s3 := c_andSL ((x + y) ^^^ x) ((x + y) ^^^ y)
  omega
def own_U (x : Int64) (s1 : Int32) (y : Int64) (s2 : Int32) : Int64 := x * own_pw (own_max s1 s2 - s1) + y * own_pw (own_max s1 s2 - s2)
theorem own_pw0 (s : Int32) (x : Int64) : x * own_pw (s - s) = x := by
  rw [show s - s = 0 from Int32.toInt_inj.mp (by have := c_isub s s; have := Int32.toInt_lt (s - s); have := Int32.le_toInt (s - s); have : (0 : Int32).toInt = 0 := rfl; omega)]
  exact Int64.mul_one x
theorem own_U1 {x y : Int64} {s1 s2 : Int32} (hs : own_S8 s1) (hp : own_S8 s2) (h : lcmpW ((s1.toInt64) - (s2.toInt64)) (0 : Int64) = (0 : Int32)) : own_max s1 s2 = s1 ∧ own_U x s1 y s2 = x + y := by
  have q := (own_dk hs hp).2.2.1
  rw [(lw_eq _ _).mp h] at q
  have k0 : (0 : Int64).toInt = 0 := rfl
  have e : s1 = s2 := Int32.toInt_inj.mp (by omega)
  subst e
  have m : own_max s1 s1 = s1 := by unfold own_max; split <;> rfl
  refine ⟨m, ?_⟩
  rw [own_U, m, own_pw0, own_pw0]
theorem own_U2 {x y : Int64} {s1 s2 : Int32} (hs : own_S8 s1) (hp : own_S8 s2) (h : lcmpW ((s1.toInt64) - (s2.toInt64)) (0 : Int64) < (0 : Int32)) : own_max s1 s2 = s2 ∧ own_U x s1 y s2 = x * own_pw (s2 - s1) + y ∧ 0 ≤ (s2 - s1).toInt ∧ (s2 - s1).toInt ≤ 7 := by
  have q := (own_dk hs hp).2.2.1
  have k0 : (0 : Int64).toInt = 0 := rfl
  rw [lw_lt, Int64.lt_iff_toInt_lt] at h
  have m : own_max s1 s2 = s2 := by rw [own_max, if_pos (Int32.lt_iff_toInt_lt.mpr (by omega))]
  have r := (own_dk hp hs).2.2.2
  obtain ⟨hs1, hs2⟩ := hs; obtain ⟨hp1, hp2⟩ := hp
  refine ⟨m, ?_, by omega, by omega⟩
  rw [own_U, m, own_pw0]
theorem own_U3 {x y : Int64} {s1 s2 : Int32} (hs : own_S8 s1) (hp : own_S8 s2) (h : ¬ (lcmpW ((s1.toInt64) - (s2.toInt64)) (0 : Int64) < (0 : Int32))) : own_max s1 s2 = s1 ∧ own_U x s1 y s2 = x + y * own_pw (s1 - s2) ∧ 0 ≤ (s1 - s2).toInt ∧ (s1 - s2).toInt ≤ 7 := by
  have q := (own_dk hs hp).2.2.1
  have k0 : (0 : Int64).toInt = 0 := rfl
  rw [lw_lt, Int64.lt_iff_toInt_lt] at h
  have m : own_max s1 s2 = s1 := by rw [own_max, if_neg (fun z => by rw [Int32.lt_iff_toInt_lt] at z; omega)]
  have r := (own_dk hs hp).2.2.2
  obtain ⟨hs1, hs2⟩ := hs; obtain ⟨hp1, hp2⟩ := hp
  refine ⟨m, ?_, by omega, by omega⟩
  rw [own_U, m, own_pw0]
theorem own_maxS {s1 s2 : Int32} (hs : own_S8 s1) (hp : own_S8 s2) : own_S8 (own_max s1 s2) ∧ own_S8 s1 ∧ (0 ≤ (own_max s1 s2 - s1).toInt ∧ (own_max s1 s2 - s1).toInt ≤ 7) ∧ (0 ≤ (own_max s1 s2 - s2).toInt ∧ (own_max s1 s2 - s2).toInt ≤ 7) := by
  have m : own_max s1 s2 = s1 ∨ own_max s1 s2 = s2 := by unfold own_max; split <;> simp
  have l1 : s1.toInt ≤ (own_max s1 s2).toInt ∧ s2.toInt ≤ (own_max s1 s2).toInt := by
    unfold own_max
    split
    · rename_i h; rw [Int32.lt_iff_toInt_lt] at h; omega
    · rename_i h; rw [Int32.lt_iff_toInt_lt] at h; omega
  have hm : own_S8 (own_max s1 s2) := by rcases m with e | e <;> rw [e] <;> assumption
  have d1 := (own_dk hm hs).2.2.2; have d2 := (own_dk hm hp).2.2.2
  obtain ⟨hm1, hm2⟩ := hm; obtain ⟨hs1, hs2⟩ := hs; obtain ⟨hp1, hp2⟩ := hp
  exact ⟨⟨hm1, hm2⟩, ⟨hs1, hs2⟩, by omega, by omega⟩
theorem own_UB {x y : Int64} {s1 s2 : Int32} (hx : own_X x) (hy : own_X y) (hs : own_S8 s1) (hp : own_S8 s2) : own_HB (own_U x s1 y s2) := by
  obtain ⟨-, -, ⟨a1, a2⟩, b1, b2⟩ := own_maxS hs hp
  exact (own_add (own_mulX a1 a2 hx).2 (own_mulX b1 b2 hy).2).2.1
theorem own_16 {s : Int32} (h : own_S8 s) : s.toInt < (16 : Nat) := by have := h.2; omega
theorem d19_0 : decode c_8 0 = .ok (.lload_n 0, 1) := by decide +kernel
theorem d19_1 : decode c_8 1 = .ok (.lload_n 2, 1) := by decide +kernel
theorem d19_2 : decode c_8 2 = .ok (.invokestatic 996, 3) := by decide +kernel
theorem pd_9 : parseMethodDescriptor "(JJ)J" = some ⟨[.long, .long], some .long⟩ := by decide +kernel
theorem d19_5 : decode c_8 5 = .ok (.lstore 5, 2) := by decide +kernel
theorem d19_7 : decode c_8 7 = .ok (.lload 5, 2) := by decide +kernel
theorem d19_9 : decode c_8 9 = .ok (.ldc2_w 125, 3) := by decide +kernel
theorem d19_12 : decode c_8 12 = .ok (.lcmp, 1) := by decide +kernel
theorem d19_13 : decode c_8 13 = .ok (.ifCond .eq 11, 3) := by decide +kernel
theorem d19_16 : decode c_8 16 = .ok (.lload 5, 2) := by decide +kernel
theorem d19_18 : decode c_8 18 = .ok (.iload 4, 2) := by decide +kernel
theorem d19_20 : decode c_8 20 = .ok (.invokestatic 328, 3) := by decide +kernel
theorem pd_10 : parseMethodDescriptor "(JI)Ljava/math/BigDecimal;" = some ⟨[.long, .int], some (.object "java/math/BigDecimal")⟩ := by decide +kernel
theorem d19_23 : decode c_8 23 = .ok (.areturn, 1) := by decide +kernel
theorem ef_rmAdd3 (m : MethodId) (x0 : Int64) (x1 : Int64) (x2 : Int32) : entryFrame m #[(.long x0), (.long x1), (.int x2)] 7 = mkF m 0 #[.val (.long x0), .second, .val (.long x1), .second, .val (.int x2), .unset, .unset] [] := by first | (simp [entryFrame, mkF, argsToLocals, Value.category]; done) | rfl
def QrmAdd3 (Z : State) (x : Int64) (y : Int64) (sc : Int32)  (h0 : Heap) (n0 : Nat) (v : Option Value) (h : Heap) (L : List Loc) : Prop := ∃ b, v = some (.ref b) ∧ Fr n0 L ∧ own_QB Z h0 h n0 b sc (x + y)
theorem rmAdd3 (l : Launch) (Z : State) (a0 : Array Value) (hw : ∀ d ∈ tables_1, d.before a0 Z = true) (ws : List Jvm.Cond) (x : Int64) (y : Int64) (sc : Int32)  (h0 : Heap) (n0 : Nat) (Z0 : n0 ≤ h0.size) (J : own_J Z) (O0 : Old Z n0 h0) (hx16 : own_B16 x) (hy16 : own_B16 y) (hi1 : sc.toInt < (16 : Nat)) :
    MetFree l m_14 (head1 (Jvm.Cond.code m_14 jdk_17_method_133_code 7 (some (.object "java/math/BigDecimal")) :: ws) ({ frames := 5, cells := 1, slots := 5, locals := 69 } : Room)) (fun a U => a = #[(.long x), (.long y), (.int sc)] ∧ Z.Warmed39 U.vm ∧ U.heap = h0) (fun _ _ _ _ _ => True) (fun _ U o U' => ∃ v L, o = .returned v ∧ QrmAdd3 Z x y sc  h0 n0 v U'.heap L ∧ FrameEnd U o U' L ({ frames := 5, cells := 1, slots := 5, locals := 69 } : Room).cells ({ frames := 5, cells := 1, slots := 5, locals := 69 } : Room).slots) := by
  refine MetFree.of_bodySF (plainFor_of_name pn_java_math_BigDecimal) hisR ?_
  intro p e s m args below meth c s₁ Bd hml0 hP hK
  obtain ⟨rfl, hZ, hh⟩ := hP
  have hx := Bd.exec
  have hby := Bd.bytes
  have hml : c.maxLocals = 7 := hml0
  have hown : s.vm.findClass "java/math/BigDecimal" = some m.cls := findClass_of_methodNamed Bd.named
  have hnm := (name_of_methodNamed Bd.named Bd.method).1
  have X0 : Stand p l e ({ frames := 5, cells := 1, slots := 5, locals := 69 } : Room) s m #[(.long x), (.long y), (.int sc)] below meth c s₁ [] 0 0 := Stand.of_body Bd
  have e0 : s₁.heap = h0 := by rw [← hh, Bd.state]; rfl
  have N0 := Fr.nil n0
  have pre0 : ∀ t, Steps p.tables e below (s₁.setTop (mkF m 0 #[.val (.long x), .second, .val (.long y), .second, .val (.int sc), .unset, .unset] [])) t → Steps p.tables e below (s₁.setTop (entryFrame m #[(.long x), (.long y), (.int sc)] 7)) t := fun t k => castTop (ef_rmAdd3 m x y sc) k
  obtain ⟨_, _, ⟨T1, L1, k1, n1⟩, -, X1, ⟨Lc1, hQ1, l1, y1, z1⟩, st1⟩ := Jvm.LawKit.callS X0 hx (y := m_34) hown (mvT hZ (own_w hw 107 rfl)) (mvT hZ (own_w hw 108 rfl)) (mvT hZ (own_w hw 9 rfl)) (mvT hZ (own_w hw 109 rfl)) (by decide) (backOf (W := 0) (rmAddJ l Z a0 hw [] x y  h0 n0 Z0 (own_add hx16 hy16).2.2) hZ (own_w hw 109 rfl) (own_w hw 9 rfl) (by decide) (by decide)) (g := (mkF m 2 #[.val (.long x), .second, .val (.long y), .second, .val (.int sc), .unset, .unset] [(.long y), (.long x)])) rfl (by rw [hml]; rfl) (argsL := [(.long x), (.long y)]) (rest := []) (lenOf pd_9 rfl) rfl (by show 2 * 0 + _ ≤ _; exact Nat.le_of_eq rfl) (hb hby d19_2) (fun _ _ => ⟨rfl, e0, (by decide : 0 + 0 ≤ _), (by decide : 0 + 0 ≤ _)⟩)
  dsimp only [Pt.U, Pt.locs, Pt.cells, Pt.slots] at X1 l1 y1 z1 st1 hQ1
  subst y1 z1
  obtain ⟨rfl, N1q, e1⟩ := hQ1
  have N1 : Fr n0 L1 := by rw [l1]; exact Fr.app N0 N1q
  obtain ⟨_, _, ⟨T2, L2, k2, n2⟩, -, X2, ⟨Lc2, hQ2, l2, y2, z2⟩, st2⟩ := Jvm.LawKit.callS X1 hx (y := m_0) hown (mvT hZ (own_w hw 110 rfl)) (mvT hZ (own_w hw 8 rfl)) (mvT hZ (own_w hw 9 rfl)) (mvT hZ (own_w hw 10 rfl)) (by decide) (backOf (W := 0) (rmV2 l Z a0 hw [] (x + y) sc  h0 n0 Z0 J O0 (own_hm (own_add hx16 hy16).2.1) hi1) hZ (own_w hw 10 rfl) (own_w hw 9 rfl) (by decide) (by decide)) (g := (mkF m 20 #[.val (.long x), .second, .val (.long y), .second, .val (.int sc), .val (.long (x + y)), .second] [(.int sc), (.long (x + y))])) rfl (by rw [hml]; rfl) (argsL := [(.long (x + y)), (.int sc)]) (rest := []) (lenOf pd_10 rfl) rfl (by show 2 * 0 + _ ≤ _; exact Nat.le_of_eq rfl) (hb hby d19_20) (fun _ _ => ⟨rfl, e1, (by decide : 0 + 1 ≤ _), (by decide : 0 + 5 ≤ _)⟩)
  dsimp only [Pt.U, Pt.locs, Pt.cells, Pt.slots] at X2 l2 y2 z2 st2 hQ2
  subst y2 z2
  obtain ⟨b2, rfl, N2q, K2, q2, B2, P2⟩ := hQ2
  have N2 : Fr n0 L2 := by rw [l2]; exact Fr.app N1 N2q
  have Z3 : n0 ≤ T2.heap.size := Nat.le_trans Z0 K2.1
  obtain ⟨fs, hr, hrun, hended, hW, hsame⟩ := X2.leave (v := some (.ref b2)) (fun h => by rw [Bd.returns] at h; cases h) Bd.notSynchronized
  refine ⟨_, _, pre0 _ ?_, hrun, hended, _, _, rfl, ?_, ⟨_, rfl⟩, hW, hsame.mono (by decide) (by decide)⟩
  · show Steps p.tables e below (s₁.setTop (mkF m 0 #[.val (.long x), .second, .val (.long y), .second, .val (.int sc), .unset, .unset] [])) _
    refine XS.lloadN X0.here hx rfl (hb hby d19_0) rfl ?_
    refine XS.lloadN X0.here hx rfl (hb hby d19_1) rfl ?_
    refine st1 _ ?_
    refine XS.lstore X1.here hx rfl (hb hby d19_5) rfl (l' := #[.val (.long x), .second, .val (.long y), .second, .val (.int sc), .val (.long (x + y)), .second]) rfl ?_
    refine XS.lload X1.here hx rfl (hb hby d19_7) rfl ?_
    refine X1.ldc2Long hx hown (mvT hZ (own_w hw 17 rfl)) (g := (mkF m 9 #[.val (.long x), .second, .val (.long y), .second, .val (.int sc), .val (.long (x + y)), .second] [(.long (x + y))])) rfl (hb hby d19_9) _ ?_
    refine XS.lcmp X1.here hx rfl (hb hby d19_12) rfl ?_
    refine XS.ifNo X1.here hx rfl (hb hby d19_13) rfl ((if0 _ _).trans (feq (own_hm (own_add hx16 hy16).2.1 : ¬ ((lcmpW (x + y) (-9223372036854775808 : Int64)) = (0 : Int32)))).1) ?_
    refine XS.lload X1.here hx rfl (hb hby d19_16) rfl ?_
    refine XS.iload X1.here hx rfl (hb hby d19_18) rfl ?_
    refine st2 _ ?_
    show Steps p.tables e below (T2.setTop (mkF m 23 #[.val (.long x), .second, .val (.long y), .second, .val (.int sc), .val (.long (x + y)), .second] [(.ref b2)])) _
    jvm_step X2.here [X2.here.top, hx, (hb hby d19_23), X2.method', Bd.returns, Value.isRef, FieldType.isReference]
    first | (intro acts; rw [hr _ acts rfl rfl rfl]) | rw [hr _ _ rfl rfl rfl]
    exact Steps.refl _
  · show QrmAdd3 Z x y sc  h0 n0 _ T2.heap _
    exact ⟨b2, rfl, N2, by exact ⟨K2, q2, B2, P2⟩⟩
theorem d15_0 : decode c_9 0 = .ok (.iload_n 2, 1) := by decide +kernel
theorem d15_1 : decode c_9 1 = .ok (.i2l, 1) := by decide +kernel
theorem d15_2 : decode c_9 2 = .ok (.iload 5, 2) := by decide +kernel
theorem d15_4 : decode c_9 4 = .ok (.i2l, 1) := by decide +kernel
theorem d15_5 : decode c_9 5 = .ok (.lsub, 1) := by decide +kernel
theorem d15_6 : decode c_9 6 = .ok (.lstore 6, 2) := by decide +kernel
theorem d15_8 : decode c_9 8 = .ok (.lload 6, 2) := by decide +kernel
theorem d15_10 : decode c_9 10 = .ok (.lconst 0, 1) := by decide +kernel
theorem d15_11 : decode c_9 11 = .ok (.lcmp, 1) := by decide +kernel
theorem d15_12 : decode c_9 12 = .ok (.ifCond .ne 10, 3) := by decide +kernel
theorem d15_15 : decode c_9 15 = .ok (.lload_n 0, 1) := by decide +kernel
theorem d15_16 : decode c_9 16 = .ok (.lload_n 3, 1) := by decide +kernel
theorem d15_17 : decode c_9 17 = .ok (.iload_n 2, 1) := by decide +kernel
theorem d15_18 : decode c_9 18 = .ok (.invokestatic 1000, 3) := by decide +kernel
theorem pd_11 : parseMethodDescriptor "(JJI)Ljava/math/BigDecimal;" = some ⟨[.long, .long, .int], some (.object "java/math/BigDecimal")⟩ := by decide +kernel
theorem d15_21 : decode c_9 21 = .ok (.areturn, 1) := by decide +kernel
theorem d15_22 : decode c_9 22 = .ok (.lload 6, 2) := by decide +kernel
theorem d15_24 : decode c_9 24 = .ok (.lconst 0, 1) := by decide +kernel
theorem d15_25 : decode c_9 25 = .ok (.lcmp, 1) := by decide +kernel
theorem d15_26 : decode c_9 26 = .ok (.ifCond .ge 85, 3) := by decide +kernel
theorem d15_29 : decode c_9 29 = .ok (.lload_n 0, 1) := by decide +kernel
theorem d15_30 : decode c_9 30 = .ok (.lload 6, 2) := by decide +kernel
theorem d15_32 : decode c_9 32 = .ok (.lneg, 1) := by decide +kernel
theorem d15_33 : decode c_9 33 = .ok (.invokestatic 994, 3) := by decide +kernel
theorem d15_36 : decode c_9 36 = .ok (.istore 8, 2) := by decide +kernel
theorem d15_38 : decode c_9 38 = .ok (.lload_n 0, 1) := by decide +kernel
theorem d15_39 : decode c_9 39 = .ok (.iload 8, 2) := by decide +kernel
theorem d15_41 : decode c_9 41 = .ok (.invokestatic 599, 3) := by decide +kernel
theorem pd_12 : parseMethodDescriptor "(JI)J" = some ⟨[.long, .int], some .long⟩ := by decide +kernel
theorem d15_44 : decode c_9 44 = .ok (.lstore 9, 2) := by decide +kernel
theorem d15_46 : decode c_9 46 = .ok (.lload 9, 2) := by decide +kernel
theorem d15_48 : decode c_9 48 = .ok (.ldc2_w 125, 3) := by decide +kernel
theorem d15_51 : decode c_9 51 = .ok (.lcmp, 1) := by decide +kernel
theorem d15_52 : decode c_9 52 = .ok (.ifCond .eq 12, 3) := by decide +kernel
theorem d15_55 : decode c_9 55 = .ok (.lload 9, 2) := by decide +kernel
theorem d15_57 : decode c_9 57 = .ok (.lload_n 3, 1) := by decide +kernel
theorem d15_58 : decode c_9 58 = .ok (.iload 5, 2) := by decide +kernel
theorem d15_60 : decode c_9 60 = .ok (.invokestatic 1000, 3) := by decide +kernel
theorem d15_63 : decode c_9 63 = .ok (.areturn, 1) := by decide +kernel
theorem d15_111 : decode c_9 111 = .ok (.lload_n 3, 1) := by decide +kernel
theorem d15_112 : decode c_9 112 = .ok (.lload 6, 2) := by decide +kernel
theorem d15_114 : decode c_9 114 = .ok (.invokestatic 994, 3) := by decide +kernel
theorem d15_117 : decode c_9 117 = .ok (.istore 8, 2) := by decide +kernel
theorem d15_119 : decode c_9 119 = .ok (.lload_n 3, 1) := by decide +kernel
theorem d15_120 : decode c_9 120 = .ok (.iload 8, 2) := by decide +kernel
theorem d15_122 : decode c_9 122 = .ok (.invokestatic 599, 3) := by decide +kernel
theorem d15_125 : decode c_9 125 = .ok (.lstore 9, 2) := by decide +kernel
theorem d15_127 : decode c_9 127 = .ok (.lload 9, 2) := by decide +kernel
theorem d15_129 : decode c_9 129 = .ok (.ldc2_w 125, 3) := by decide +kernel
theorem d15_132 : decode c_9 132 = .ok (.lcmp, 1) := by decide +kernel
theorem d15_133 : decode c_9 133 = .ok (.ifCond .eq 11, 3) := by decide +kernel
theorem d15_136 : decode c_9 136 = .ok (.lload_n 0, 1) := by decide +kernel
theorem d15_137 : decode c_9 137 = .ok (.lload 9, 2) := by decide +kernel
theorem d15_139 : decode c_9 139 = .ok (.iload_n 2, 1) := by decide +kernel
theorem d15_140 : decode c_9 140 = .ok (.invokestatic 1000, 3) := by decide +kernel
theorem d15_143 : decode c_9 143 = .ok (.areturn, 1) := by decide +kernel
theorem ef_rmAdd4 (m : MethodId) (x0 : Int64) (x1 : Int32) (x2 : Int64) (x3 : Int32) : entryFrame m #[(.long x0), (.int x1), (.long x2), (.int x3)] 12 = mkF m 0 #[.val (.long x0), .second, .val (.int x1), .val (.long x2), .second, .val (.int x3), .unset, .unset, .unset, .unset, .unset, .unset] [] := by first | (simp [entryFrame, mkF, argsToLocals, Value.category]; done) | rfl
def QrmAdd4 (Z : State) (x : Int64) (s1 : Int32) (y : Int64) (s2 : Int32)  (h0 : Heap) (n0 : Nat) (v : Option Value) (h : Heap) (L : List Loc) : Prop := ∃ b, v = some (.ref b) ∧ Fr n0 L ∧ own_QB Z h0 h n0 b (own_max s1 s2) (own_U x s1 y s2)
theorem rmAdd4 (l : Launch) (Z : State) (a0 : Array Value) (hw : ∀ d ∈ tables_1, d.before a0 Z = true) (ws : List Jvm.Cond) (x : Int64) (s1 : Int32) (y : Int64) (s2 : Int32)  (h0 : Heap) (n0 : Nat) (Z0 : n0 ≤ h0.size) (J : own_J Z) (O0 : Old Z n0 h0) (hx_ : own_X x) (hy_ : own_X y) (hs1 : own_S8 s1) (hs2 : own_S8 s2) :
    MetFree l m_37 (head1 (Jvm.Cond.code m_37 jdk_17_method_134_code 12 (some (.object "java/math/BigDecimal")) :: ws) ({ frames := 6, cells := 1, slots := 5, locals := 87 } : Room)) (fun a U => a = #[(.long x), (.int s1), (.long y), (.int s2)] ∧ Z.Warmed39 U.vm ∧ U.heap = h0) (fun _ _ _ _ _ => True) (fun _ U o U' => ∃ v L, o = .returned v ∧ QrmAdd4 Z x s1 y s2  h0 n0 v U'.heap L ∧ FrameEnd U o U' L ({ frames := 6, cells := 1, slots := 5, locals := 87 } : Room).cells ({ frames := 6, cells := 1, slots := 5, locals := 87 } : Room).slots) := by
  refine MetFree.of_bodySF (plainFor_of_name pn_java_math_BigDecimal) hisR ?_
  intro p e s m args below meth c s₁ Bd hml0 hP hK
  obtain ⟨rfl, hZ, hh⟩ := hP
  have hx := Bd.exec
  have hby := Bd.bytes
  have hml : c.maxLocals = 12 := hml0
  have hown : s.vm.findClass "java/math/BigDecimal" = some m.cls := findClass_of_methodNamed Bd.named
  have hnm := (name_of_methodNamed Bd.named Bd.method).1
  have X0 : Stand p l e ({ frames := 6, cells := 1, slots := 5, locals := 87 } : Room) s m #[(.long x), (.int s1), (.long y), (.int s2)] below meth c s₁ [] 0 0 := Stand.of_body Bd
  have e0 : s₁.heap = h0 := by rw [← hh, Bd.state]; rfl
  have N0 := Fr.nil n0
  have pre0 : ∀ t, Steps p.tables e below (s₁.setTop (mkF m 0 #[.val (.long x), .second, .val (.int s1), .val (.long y), .second, .val (.int s2), .unset, .unset, .unset, .unset, .unset, .unset] [])) t → Steps p.tables e below (s₁.setTop (entryFrame m #[(.long x), (.int s1), (.long y), (.int s2)] 12)) t := fun t k => castTop (ef_rmAdd4 m x s1 y s2) k
  have pk1 : ∀ target, Steps p.tables e below (s₁.setTop (mkF m 12 #[.val (.long x), .second, .val (.int s1), .val (.long y), .second, .val (.int s2), .val (.long ((s1.toInt64) - (s2.toInt64))), .second, .unset, .unset, .unset, .unset] [(.int (lcmpW ((s1.toInt64) - (s2.toInt64)) (0 : Int64)))])) target → Steps p.tables e below (s₁.setTop (mkF m 0 #[.val (.long x), .second, .val (.int s1), .val (.long y), .second, .val (.int s2), .unset, .unset, .unset, .unset, .unset, .unset] [])) target := by
    intro target kt
    show Steps p.tables e below (s₁.setTop (mkF m 0 #[.val (.long x), .second, .val (.int s1), .val (.long y), .second, .val (.int s2), .unset, .unset, .unset, .unset, .unset, .unset] [])) _
    refine XS.iloadN X0.here hx rfl (hb hby d15_0) rfl ?_
    refine XS.i2l X0.here hx rfl (hb hby d15_1) rfl ?_
    refine XS.iload X0.here hx rfl (hb hby d15_2) rfl ?_
    refine XS.i2l X0.here hx rfl (hb hby d15_4) rfl ?_
    refine XS.lsub X0.here hx rfl (hb hby d15_5) rfl ?_
    refine XS.lstore X0.here hx rfl (hb hby d15_6) rfl (l' := #[.val (.long x), .second, .val (.int s1), .val (.long y), .second, .val (.int s2), .val (.long ((s1.toInt64) - (s2.toInt64))), .second, .unset, .unset, .unset, .unset]) rfl ?_
    refine XS.lload X0.here hx rfl (hb hby d15_8) rfl ?_
    refine XS.lconst X0.here hx rfl (hb hby d15_10) ?_
    refine XS.lcmp X0.here hx rfl (hb hby d15_11) rfl ?_
    exact kt
  by_cases hq1 : (lcmpW ((s1.toInt64) - (s2.toInt64)) (0 : Int64)) = (0 : Int32)
  · obtain ⟨u1, u2⟩ := own_U1 (x := x) (y := y) hs1 hs2 hq1
    obtain ⟨_, _, ⟨T2, L2, k2, n2⟩, -, X2, ⟨Lc2, hQ2, l2, y2, z2⟩, st2⟩ := Jvm.LawKit.callS X0 hx (y := m_14) hown (mvT hZ (own_w hw 104 rfl)) (mvT hZ (own_w hw 105 rfl)) (mvT hZ (own_w hw 9 rfl)) (mvT hZ (own_w hw 106 rfl)) (by decide) (backOf (W := 0) (rmAdd3 l Z a0 hw [] x y s1  h0 n0 Z0 J O0 hx_.b hy_.b (own_16 hs1)) hZ (own_w hw 106 rfl) (own_w hw 9 rfl) (by decide) (by decide)) (g := (mkF m 18 #[.val (.long x), .second, .val (.int s1), .val (.long y), .second, .val (.int s2), .val (.long ((s1.toInt64) - (s2.toInt64))), .second, .unset, .unset, .unset, .unset] [(.int s1), (.long y), (.long x)])) rfl (by rw [hml]; rfl) (argsL := [(.long x), (.long y), (.int s1)]) (rest := []) (lenOf pd_11 rfl) rfl (by show 2 * 0 + _ ≤ _; exact Nat.le_of_eq rfl) (hb hby d15_18) (fun _ _ => ⟨rfl, e0, (by decide : 0 + 1 ≤ _), (by decide : 0 + 5 ≤ _)⟩)
    dsimp only [Pt.U, Pt.locs, Pt.cells, Pt.slots] at X2 l2 y2 z2 st2 hQ2
    subst y2 z2
    obtain ⟨b2, rfl, N2q, K2, q2, B2, P2⟩ := hQ2
    have N2 : Fr n0 L2 := by rw [l2]; exact Fr.app N0 N2q
    have Z3 : n0 ≤ T2.heap.size := Nat.le_trans Z0 K2.1
    obtain ⟨fs, hr, hrun, hended, hW, hsame⟩ := X2.leave (v := some (.ref b2)) (fun h => by rw [Bd.returns] at h; cases h) Bd.notSynchronized
    refine ⟨_, _, pre0 _ ?_, hrun, hended, _, _, rfl, ?_, ⟨_, rfl⟩, hW, hsame.mono (by decide) (by decide)⟩
    · refine pk1 _ ?_
      show Steps p.tables e below (s₁.setTop (mkF m 12 #[.val (.long x), .second, .val (.int s1), .val (.long y), .second, .val (.int s2), .val (.long ((s1.toInt64) - (s2.toInt64))), .second, .unset, .unset, .unset, .unset] [(.int (lcmpW ((s1.toInt64) - (s2.toInt64)) (0 : Int64)))])) _
      refine XS.ifNo X0.here hx rfl (hb hby d15_12) rfl ((if0 _ _).trans (teq (hq1 : (lcmpW ((s1.toInt64) - (s2.toInt64)) (0 : Int64)) = (0 : Int32))).2) ?_
      refine XS.lloadN X0.here hx rfl (hb hby d15_15) rfl ?_
      refine XS.lloadN X0.here hx rfl (hb hby d15_16) rfl ?_
      refine XS.iloadN X0.here hx rfl (hb hby d15_17) rfl ?_
      refine st2 _ ?_
      show Steps p.tables e below (T2.setTop (mkF m 21 #[.val (.long x), .second, .val (.int s1), .val (.long y), .second, .val (.int s2), .val (.long ((s1.toInt64) - (s2.toInt64))), .second, .unset, .unset, .unset, .unset] [(.ref b2)])) _
      jvm_step X2.here [X2.here.top, hx, (hb hby d15_21), X2.method', Bd.returns, Value.isRef, FieldType.isReference]
      first | (intro acts; rw [hr _ acts rfl rfl rfl]) | rw [hr _ _ rfl rfl rfl]
      exact Steps.refl _
    · show QrmAdd4 Z x s1 y s2  h0 n0 _ T2.heap _
      exact ⟨b2, rfl, N2, by rw [u1, u2]; exact ⟨K2, q2, B2, P2⟩⟩
  · have pk2 : ∀ target, Steps p.tables e below (s₁.setTop (mkF m 26 #[.val (.long x), .second, .val (.int s1), .val (.long y), .second, .val (.int s2), .val (.long ((s1.toInt64) - (s2.toInt64))), .second, .unset, .unset, .unset, .unset] [(.int (lcmpW ((s1.toInt64) - (s2.toInt64)) (0 : Int64)))])) target → Steps p.tables e below (s₁.setTop (mkF m 0 #[.val (.long x), .second, .val (.int s1), .val (.long y), .second, .val (.int s2), .unset, .unset, .unset, .unset, .unset, .unset] [])) target := by
      intro target kt
      refine pk1 _ ?_
      show Steps p.tables e below (s₁.setTop (mkF m 12 #[.val (.long x), .second, .val (.int s1), .val (.long y), .second, .val (.int s2), .val (.long ((s1.toInt64) - (s2.toInt64))), .second, .unset, .unset, .unset, .unset] [(.int (lcmpW ((s1.toInt64) - (s2.toInt64)) (0 : Int64)))])) _
      refine XS.ifYes X0.here hx rfl (pc0 := 12) (pc' := 22) rfl (hb hby d15_12) rfl ((if0 _ _).trans (feq (hq1 : ¬ ((lcmpW ((s1.toInt64) - (s2.toInt64)) (0 : Int64)) = (0 : Int32)))).2) (by decide) (by decide) ?_
      refine XS.lload X0.here hx rfl (hb hby d15_22) rfl ?_
      refine XS.lconst X0.here hx rfl (hb hby d15_24) ?_
      refine XS.lcmp X0.here hx rfl (hb hby d15_25) rfl ?_
      exact kt
    by_cases hq2 : (lcmpW ((s1.toInt64) - (s2.toInt64)) (0 : Int64)) < (0 : Int32)
    · obtain ⟨u1, u2, u3, u4⟩ := own_U2 (x := x) (y := y) hs1 hs2 hq2
      obtain ⟨mb, m16⟩ := own_mulX u3 u4 hx_
      obtain ⟨_, _, ⟨T3, L3, k3, n3⟩, -, X3, ⟨Lc3, hQ3, l3, y3, z3⟩, st3⟩ := Jvm.LawKit.callS X0 hx (y := m_17) hown (mvT hZ (own_w hw 92 rfl)) (mvT hZ (own_w hw 93 rfl)) (mvT hZ (own_w hw 9 rfl)) (mvT hZ (own_w hw 94 rfl)) (by decide) (backOf (W := 0) (rmCs l Z a0 hw [] x (-((s1.toInt64) - (s2.toInt64)))  h0 n0 Z0 (own_dn hs1 hs2).2) hZ (own_w hw 94 rfl) (own_w hw 9 rfl) (by decide) (by decide)) (g := (mkF m 33 #[.val (.long x), .second, .val (.int s1), .val (.long y), .second, .val (.int s2), .val (.long ((s1.toInt64) - (s2.toInt64))), .second, .unset, .unset, .unset, .unset] [(.long (-((s1.toInt64) - (s2.toInt64)))), (.long x)])) rfl (by rw [hml]; rfl) (argsL := [(.long x), (.long (-((s1.toInt64) - (s2.toInt64))))]) (rest := []) (lenOf pd_0 rfl) rfl (by show 2 * 0 + _ ≤ _; exact Nat.le_of_eq rfl) (hb hby d15_33) (fun _ _ => ⟨rfl, e0, (by decide : 0 + 0 ≤ _), (by decide : 0 + 0 ≤ _)⟩)
      dsimp only [Pt.U, Pt.locs, Pt.cells, Pt.slots] at X3 l3 y3 z3 st3 hQ3
      subst y3 z3
      obtain ⟨rfl, N3q, e3⟩ := hQ3
      have N3 : Fr n0 L3 := by rw [l3]; exact Fr.app N0 N3q
      obtain ⟨_, _, ⟨T4, L4, k4, n4⟩, -, X4, ⟨Lc4, hQ4, l4, y4, z4⟩, st4⟩ := Jvm.LawKit.callS X3 hx (y := m_13) hown (mvT hZ (own_w hw 95 rfl)) (mvT hZ (own_w hw 96 rfl)) (mvT hZ (own_w hw 9 rfl)) (mvT hZ (own_w hw 97 rfl)) (by decide) (backOf (W := 0) (rmMp l Z a0 hw [] x (s2 - s1)  h0 n0 Z0 J O0 u3 (by omega) (own_hbd u3 u4 (by have := hx_.1; omega) mb)) hZ (own_w hw 97 rfl) (own_w hw 9 rfl) (by decide) (by decide)) (g := (mkF m 41 #[.val (.long x), .second, .val (.int s1), .val (.long y), .second, .val (.int s2), .val (.long ((s1.toInt64) - (s2.toInt64))), .second, .val (.int (s2 - s1)), .unset, .unset, .unset] [(.int (s2 - s1)), (.long x)])) rfl (by rw [hml]; rfl) (argsL := [(.long x), (.int (s2 - s1))]) (rest := []) (lenOf pd_12 rfl) rfl (by show 2 * 0 + _ ≤ _; exact Nat.le_of_eq rfl) (hb hby d15_41) (fun _ _ => ⟨rfl, e3, (by decide : 0 + 0 ≤ _), (by decide : 0 + 0 ≤ _)⟩)
      dsimp only [Pt.U, Pt.locs, Pt.cells, Pt.slots] at X4 l4 y4 z4 st4 hQ4
      subst y4 z4
      obtain ⟨rfl, N4q, e4⟩ := hQ4
      have N4 : Fr n0 L4 := by rw [l4]; exact Fr.app N3 N4q
      obtain ⟨_, _, ⟨T5, L5, k5, n5⟩, -, X5, ⟨Lc5, hQ5, l5, y5, z5⟩, st5⟩ := Jvm.LawKit.callS X4 hx (y := m_14) hown (mvT hZ (own_w hw 104 rfl)) (mvT hZ (own_w hw 105 rfl)) (mvT hZ (own_w hw 9 rfl)) (mvT hZ (own_w hw 106 rfl)) (by decide) (backOf (W := 0) (rmAdd3 l Z a0 hw [] (x * (own_pw (s2 - s1))) y s2  h0 n0 Z0 J O0 m16 hy_.b (own_16 hs2)) hZ (own_w hw 106 rfl) (own_w hw 9 rfl) (by decide) (by decide)) (g := (mkF m 60 #[.val (.long x), .second, .val (.int s1), .val (.long y), .second, .val (.int s2), .val (.long ((s1.toInt64) - (s2.toInt64))), .second, .val (.int (s2 - s1)), .val (.long (x * (own_pw (s2 - s1)))), .second, .unset] [(.int s2), (.long y), (.long (x * (own_pw (s2 - s1))))])) rfl (by rw [hml]; rfl) (argsL := [(.long (x * (own_pw (s2 - s1)))), (.long y), (.int s2)]) (rest := []) (lenOf pd_11 rfl) rfl (by show 2 * 0 + _ ≤ _; exact Nat.le_of_eq rfl) (hb hby d15_60) (fun _ _ => ⟨rfl, e4, (by decide : 0 + 1 ≤ _), (by decide : 0 + 5 ≤ _)⟩)
      dsimp only [Pt.U, Pt.locs, Pt.cells, Pt.slots] at X5 l5 y5 z5 st5 hQ5
      subst y5 z5
      obtain ⟨b5, rfl, N5q, K5, q5, B5, P5⟩ := hQ5
      have N5 : Fr n0 L5 := by rw [l5]; exact Fr.app N4 N5q
      have Z6 : n0 ≤ T5.heap.size := Nat.le_trans Z0 K5.1
      obtain ⟨fs, hr, hrun, hended, hW, hsame⟩ := X5.leave (v := some (.ref b5)) (fun h => by rw [Bd.returns] at h; cases h) Bd.notSynchronized
      refine ⟨_, _, pre0 _ ?_, hrun, hended, _, _, rfl, ?_, ⟨_, rfl⟩, hW, hsame.mono (by decide) (by decide)⟩
      · refine pk2 _ ?_
        show Steps p.tables e below (s₁.setTop (mkF m 26 #[.val (.long x), .second, .val (.int s1), .val (.long y), .second, .val (.int s2), .val (.long ((s1.toInt64) - (s2.toInt64))), .second, .unset, .unset, .unset, .unset] [(.int (lcmpW ((s1.toInt64) - (s2.toInt64)) (0 : Int64)))])) _
        refine XS.ifNo X0.here hx rfl (hb hby d15_26) rfl ((if0 _ _).trans (tlt (hq2 : (lcmpW ((s1.toInt64) - (s2.toInt64)) (0 : Int64)) < (0 : Int32))).2.1) ?_
        refine XS.lloadN X0.here hx rfl (hb hby d15_29) rfl ?_
        refine XS.lload X0.here hx rfl (hb hby d15_30) rfl ?_
        refine XS.lneg X0.here hx rfl (hb hby d15_32) rfl ?_
        refine st3 _ ?_
        show Steps p.tables e below (T3.setTop (mkF m 36 #[.val (.long x), .second, .val (.int s1), .val (.long y), .second, .val (.int s2), .val (.long ((s1.toInt64) - (s2.toInt64))), .second, .unset, .unset, .unset, .unset] [(.int ((-((s1.toInt64) - (s2.toInt64))).toInt32))])) _
        rw [(own_dn hs1 hs2).1]
        refine XS.istore X3.here hx rfl (hb hby d15_36) rfl (l' := #[.val (.long x), .second, .val (.int s1), .val (.long y), .second, .val (.int s2), .val (.long ((s1.toInt64) - (s2.toInt64))), .second, .val (.int (s2 - s1)), .unset, .unset, .unset]) rfl ?_
        refine XS.lloadN X3.here hx rfl (hb hby d15_38) rfl ?_
        refine XS.iload X3.here hx rfl (hb hby d15_39) rfl ?_
        refine st4 _ ?_
        refine XS.lstore X4.here hx rfl (hb hby d15_44) rfl (l' := #[.val (.long x), .second, .val (.int s1), .val (.long y), .second, .val (.int s2), .val (.long ((s1.toInt64) - (s2.toInt64))), .second, .val (.int (s2 - s1)), .val (.long (x * (own_pw (s2 - s1)))), .second, .unset]) rfl ?_
        refine XS.lload X4.here hx rfl (hb hby d15_46) rfl ?_
        refine X4.ldc2Long hx hown (mvT hZ (own_w hw 17 rfl)) (g := (mkF m 48 #[.val (.long x), .second, .val (.int s1), .val (.long y), .second, .val (.int s2), .val (.long ((s1.toInt64) - (s2.toInt64))), .second, .val (.int (s2 - s1)), .val (.long (x * (own_pw (s2 - s1)))), .second, .unset] [(.long (x * (own_pw (s2 - s1))))])) rfl (hb hby d15_48) _ ?_
        refine XS.lcmp X4.here hx rfl (hb hby d15_51) rfl ?_
        refine XS.ifNo X4.here hx rfl (hb hby d15_52) rfl ((if0 _ _).trans (feq (own_hm m16.h : ¬ ((lcmpW (x * (own_pw (s2 - s1))) (-9223372036854775808 : Int64)) = (0 : Int32)))).1) ?_
        refine XS.lload X4.here hx rfl (hb hby d15_55) rfl ?_
        refine XS.lloadN X4.here hx rfl (hb hby d15_57) rfl ?_
        refine XS.iload X4.here hx rfl (hb hby d15_58) rfl ?_
        refine st5 _ ?_
        show Steps p.tables e below (T5.setTop (mkF m 63 #[.val (.long x), .second, .val (.int s1), .val (.long y), .second, .val (.int s2), .val (.long ((s1.toInt64) - (s2.toInt64))), .second, .val (.int (s2 - s1)), .val (.long (x * (own_pw (s2 - s1)))), .second, .unset] [(.ref b5)])) _
        jvm_step X5.here [X5.here.top, hx, (hb hby d15_63), X5.method', Bd.returns, Value.isRef, FieldType.isReference]
        first | (intro acts; rw [hr _ acts rfl rfl rfl]) | rw [hr _ _ rfl rfl rfl]
        exact Steps.refl _
      · show QrmAdd4 Z x s1 y s2  h0 n0 _ T5.heap _
        exact ⟨b5, rfl, N5, by rw [u1, u2]; exact ⟨K5, q5, B5, P5⟩⟩
    · obtain ⟨u1, u2, u3, u4⟩ := own_U3 (x := x) (y := y) hs1 hs2 hq2
      obtain ⟨mb, m16⟩ := own_mulX u3 u4 hy_
      obtain ⟨_, _, ⟨T3, L3, k3, n3⟩, -, X3, ⟨Lc3, hQ3, l3, y3, z3⟩, st3⟩ := Jvm.LawKit.callS X0 hx (y := m_17) hown (mvT hZ (own_w hw 92 rfl)) (mvT hZ (own_w hw 93 rfl)) (mvT hZ (own_w hw 9 rfl)) (mvT hZ (own_w hw 94 rfl)) (by decide) (backOf (W := 0) (rmCs l Z a0 hw [] y ((s1.toInt64) - (s2.toInt64))  h0 n0 Z0 (own_dk hs1 hs2).2.1) hZ (own_w hw 94 rfl) (own_w hw 9 rfl) (by decide) (by decide)) (g := (mkF m 114 #[.val (.long x), .second, .val (.int s1), .val (.long y), .second, .val (.int s2), .val (.long ((s1.toInt64) - (s2.toInt64))), .second, .unset, .unset, .unset, .unset] [(.long ((s1.toInt64) - (s2.toInt64))), (.long y)])) rfl (by rw [hml]; rfl) (argsL := [(.long y), (.long ((s1.toInt64) - (s2.toInt64)))]) (rest := []) (lenOf pd_0 rfl) rfl (by show 2 * 0 + _ ≤ _; exact Nat.le_of_eq rfl) (hb hby d15_114) (fun _ _ => ⟨rfl, e0, (by decide : 0 + 0 ≤ _), (by decide : 0 + 0 ≤ _)⟩)
      dsimp only [Pt.U, Pt.locs, Pt.cells, Pt.slots] at X3 l3 y3 z3 st3 hQ3
      subst y3 z3
      obtain ⟨rfl, N3q, e3⟩ := hQ3
      have N3 : Fr n0 L3 := by rw [l3]; exact Fr.app N0 N3q
      obtain ⟨_, _, ⟨T4, L4, k4, n4⟩, -, X4, ⟨Lc4, hQ4, l4, y4, z4⟩, st4⟩ := Jvm.LawKit.callS X3 hx (y := m_13) hown (mvT hZ (own_w hw 95 rfl)) (mvT hZ (own_w hw 96 rfl)) (mvT hZ (own_w hw 9 rfl)) (mvT hZ (own_w hw 97 rfl)) (by decide) (backOf (W := 0) (rmMp l Z a0 hw [] y (s1 - s2)  h0 n0 Z0 J O0 u3 (by omega) (own_hbd u3 u4 (by have := hy_.1; omega) mb)) hZ (own_w hw 97 rfl) (own_w hw 9 rfl) (by decide) (by decide)) (g := (mkF m 122 #[.val (.long x), .second, .val (.int s1), .val (.long y), .second, .val (.int s2), .val (.long ((s1.toInt64) - (s2.toInt64))), .second, .val (.int (s1 - s2)), .unset, .unset, .unset] [(.int (s1 - s2)), (.long y)])) rfl (by rw [hml]; rfl) (argsL := [(.long y), (.int (s1 - s2))]) (rest := []) (lenOf pd_12 rfl) rfl (by show 2 * 0 + _ ≤ _; exact Nat.le_of_eq rfl) (hb hby d15_122) (fun _ _ => ⟨rfl, e3, (by decide : 0 + 0 ≤ _), (by decide : 0 + 0 ≤ _)⟩)
      dsimp only [Pt.U, Pt.locs, Pt.cells, Pt.slots] at X4 l4 y4 z4 st4 hQ4
      subst y4 z4
      obtain ⟨rfl, N4q, e4⟩ := hQ4
      have N4 : Fr n0 L4 := by rw [l4]; exact Fr.app N3 N4q
      obtain ⟨_, _, ⟨T5, L5, k5, n5⟩, -, X5, ⟨Lc5, hQ5, l5, y5, z5⟩, st5⟩ := Jvm.LawKit.callS X4 hx (y := m_14) hown (mvT hZ (own_w hw 104 rfl)) (mvT hZ (own_w hw 105 rfl)) (mvT hZ (own_w hw 9 rfl)) (mvT hZ (own_w hw 106 rfl)) (by decide) (backOf (W := 0) (rmAdd3 l Z a0 hw [] x (y * (own_pw (s1 - s2))) s1  h0 n0 Z0 J O0 hx_.b m16 (own_16 hs1)) hZ (own_w hw 106 rfl) (own_w hw 9 rfl) (by decide) (by decide)) (g := (mkF m 140 #[.val (.long x), .second, .val (.int s1), .val (.long y), .second, .val (.int s2), .val (.long ((s1.toInt64) - (s2.toInt64))), .second, .val (.int (s1 - s2)), .val (.long (y * (own_pw (s1 - s2)))), .second, .unset] [(.int s1), (.long (y * (own_pw (s1 - s2)))), (.long x)])) rfl (by rw [hml]; rfl) (argsL := [(.long x), (.long (y * (own_pw (s1 - s2)))), (.int s1)]) (rest := []) (lenOf pd_11 rfl) rfl (by show 2 * 0 + _ ≤ _; exact Nat.le_of_eq rfl) (hb hby d15_140) (fun _ _ => ⟨rfl, e4, (by decide : 0 + 1 ≤ _), (by decide : 0 + 5 ≤ _)⟩)
      dsimp only [Pt.U, Pt.locs, Pt.cells, Pt.slots] at X5 l5 y5 z5 st5 hQ5
      subst y5 z5
      obtain ⟨b5, rfl, N5q, K5, q5, B5, P5⟩ := hQ5
      have N5 : Fr n0 L5 := by rw [l5]; exact Fr.app N4 N5q
      have Z6 : n0 ≤ T5.heap.size := Nat.le_trans Z0 K5.1
      obtain ⟨fs, hr, hrun, hended, hW, hsame⟩ := X5.leave (v := some (.ref b5)) (fun h => by rw [Bd.returns] at h; cases h) Bd.notSynchronized
      refine ⟨_, _, pre0 _ ?_, hrun, hended, _, _, rfl, ?_, ⟨_, rfl⟩, hW, hsame.mono (by decide) (by decide)⟩
      · refine pk2 _ ?_
        show Steps p.tables e below (s₁.setTop (mkF m 26 #[.val (.long x), .second, .val (.int s1), .val (.long y), .second, .val (.int s2), .val (.long ((s1.toInt64) - (s2.toInt64))), .second, .unset, .unset, .unset, .unset] [(.int (lcmpW ((s1.toInt64) - (s2.toInt64)) (0 : Int64)))])) _
        refine XS.ifYes X0.here hx rfl (pc0 := 26) (pc' := 111) rfl (hb hby d15_26) rfl ((if0 _ _).trans (flt (hq2 : ¬ ((lcmpW ((s1.toInt64) - (s2.toInt64)) (0 : Int64)) < (0 : Int32)))).2.1) (by decide) (by decide) ?_
        refine XS.lloadN X0.here hx rfl (hb hby d15_111) rfl ?_
        refine XS.lload X0.here hx rfl (hb hby d15_112) rfl ?_
        refine st3 _ ?_
        show Steps p.tables e below (T3.setTop (mkF m 117 #[.val (.long x), .second, .val (.int s1), .val (.long y), .second, .val (.int s2), .val (.long ((s1.toInt64) - (s2.toInt64))), .second, .unset, .unset, .unset, .unset] [(.int (((s1.toInt64) - (s2.toInt64)).toInt32))])) _
        rw [(own_dk hs1 hs2).1]
        refine XS.istore X3.here hx rfl (hb hby d15_117) rfl (l' := #[.val (.long x), .second, .val (.int s1), .val (.long y), .second, .val (.int s2), .val (.long ((s1.toInt64) - (s2.toInt64))), .second, .val (.int (s1 - s2)), .unset, .unset, .unset]) rfl ?_
        refine XS.lloadN X3.here hx rfl (hb hby d15_119) rfl ?_
        refine XS.iload X3.here hx rfl (hb hby d15_120) rfl ?_
        refine st4 _ ?_
        refine XS.lstore X4.here hx rfl (hb hby d15_125) rfl (l' := #[.val (.long x), .second, .val (.int s1), .val (.long y), .second, .val (.int s2), .val (.long ((s1.toInt64) - (s2.toInt64))), .second, .val (.int (s1 - s2)), .val (.long (y * (own_pw (s1 - s2)))), .second, .unset]) rfl ?_
        refine XS.lload X4.here hx rfl (hb hby d15_127) rfl ?_
        refine X4.ldc2Long hx hown (mvT hZ (own_w hw 17 rfl)) (g := (mkF m 129 #[.val (.long x), .second, .val (.int s1), .val (.long y), .second, .val (.int s2), .val (.long ((s1.toInt64) - (s2.toInt64))), .second, .val (.int (s1 - s2)), .val (.long (y * (own_pw (s1 - s2)))), .second, .unset] [(.long (y * (own_pw (s1 - s2))))])) rfl (hb hby d15_129) _ ?_
        refine XS.lcmp X4.here hx rfl (hb hby d15_132) rfl ?_
        refine XS.ifNo X4.here hx rfl (hb hby d15_133) rfl ((if0 _ _).trans (feq (own_hm m16.h : ¬ ((lcmpW (y * (own_pw (s1 - s2))) (-9223372036854775808 : Int64)) = (0 : Int32)))).1) ?_
        refine XS.lloadN X4.here hx rfl (hb hby d15_136) rfl ?_
        refine XS.lload X4.here hx rfl (hb hby d15_137) rfl ?_
        refine XS.iloadN X4.here hx rfl (hb hby d15_139) rfl ?_
        refine st5 _ ?_
        show Steps p.tables e below (T5.setTop (mkF m 143 #[.val (.long x), .second, .val (.int s1), .val (.long y), .second, .val (.int s2), .val (.long ((s1.toInt64) - (s2.toInt64))), .second, .val (.int (s1 - s2)), .val (.long (y * (own_pw (s1 - s2)))), .second, .unset] [(.ref b5)])) _
        jvm_step X5.here [X5.here.top, hx, (hb hby d15_143), X5.method', Bd.returns, Value.isRef, FieldType.isReference]
        first | (intro acts; rw [hr _ acts rfl rfl rfl]) | rw [hr _ _ rfl rfl rfl]
        exact Steps.refl _
      · show QrmAdd4 Z x s1 y s2  h0 n0 _ T5.heap _
        exact ⟨b5, rfl, N5, by rw [u1, u2]; exact ⟨K5, q5, B5, P5⟩⟩
theorem d14_0 : decode c_14 0 = .ok (.aload_n 0, 1) := by decide +kernel
theorem d14_1 : decode c_14 1 = .ok (.getfield 24, 3) := by decide +kernel
theorem d14_4 : decode c_14 4 = .ok (.ldc2_w 125, 3) := by decide +kernel
theorem d14_7 : decode c_14 7 = .ok (.lcmp, 1) := by decide +kernel
theorem d14_8 : decode c_14 8 = .ok (.ifCond .eq 54, 3) := by decide +kernel
theorem d14_11 : decode c_14 11 = .ok (.aload_n 1, 1) := by decide +kernel
theorem d14_12 : decode c_14 12 = .ok (.getfield 24, 3) := by decide +kernel
theorem d14_15 : decode c_14 15 = .ok (.ldc2_w 125, 3) := by decide +kernel
theorem d14_18 : decode c_14 18 = .ok (.lcmp, 1) := by decide +kernel
theorem d14_19 : decode c_14 19 = .ok (.ifCond .eq 23, 3) := by decide +kernel
theorem d14_22 : decode c_14 22 = .ok (.aload_n 0, 1) := by decide +kernel
theorem d14_23 : decode c_14 23 = .ok (.getfield 24, 3) := by decide +kernel
theorem d14_26 : decode c_14 26 = .ok (.aload_n 0, 1) := by decide +kernel
theorem d14_27 : decode c_14 27 = .ok (.getfield 17, 3) := by decide +kernel
theorem d14_30 : decode c_14 30 = .ok (.aload_n 1, 1) := by decide +kernel
theorem d14_31 : decode c_14 31 = .ok (.getfield 24, 3) := by decide +kernel
theorem d14_34 : decode c_14 34 = .ok (.aload_n 1, 1) := by decide +kernel
theorem d14_35 : decode c_14 35 = .ok (.getfield 17, 3) := by decide +kernel
theorem d14_38 : decode c_14 38 = .ok (.invokestatic 257, 3) := by decide +kernel
theorem pd_13 : parseMethodDescriptor "(JIJI)Ljava/math/BigDecimal;" = some ⟨[.long, .int, .long, .int], some (.object "java/math/BigDecimal")⟩ := by decide +kernel
theorem d14_41 : decode c_14 41 = .ok (.areturn, 1) := by decide +kernel
theorem ef_rmAdd (m : MethodId) (x0 : Addr) (x1 : Addr) : entryFrame m #[(.ref x0), (.ref x1)] 2 = mkF m 0 #[.val (.ref x0), .val (.ref x1)] [] := by first | (simp [entryFrame, mkF, argsToLocals, Value.category]; done) | rfl
def QrmAdd (Z : State) (a1 : Addr) (a2 : Addr) (x : Int64) (s1 : Int32) (y : Int64) (s2 : Int32) (h0 : Heap) (n0 : Nat) (v : Option Value) (h : Heap) (L : List Loc) : Prop := ∃ b, v = some (.ref b) ∧ Fr n0 L ∧ own_QB Z h0 h n0 b (own_max s1 s2) (own_U x s1 y s2)
theorem rmAdd (l : Launch) (Z : State) (a0 : Array Value) (hw : ∀ d ∈ tables_1, d.before a0 Z = true) (ws : List Jvm.Cond) (a1 : Addr) (a2 : Addr) (x : Int64) (s1 : Int32) (y : Int64) (s2 : Int32) (h0 : Heap) (n0 : Nat) (Z0 : n0 ≤ h0.size) (J : own_J Z) (O0 : Old Z n0 h0) (B1 : own_BD Z h0 a1 s1 x) (B2 : own_BD Z h0 a2 s2 y) (hx_ : own_X x) (hy_ : own_X y) (hs1 : own_S8 s1) (hs2 : own_S8 s2) :
    MetFree l m_11 (head1 (Jvm.Cond.code m_11 jdk_17_method_26_code 2 (some (.object "java/math/BigDecimal")) :: ws) ({ frames := 7, cells := 1, slots := 5, locals := 110 } : Room)) (fun a U => a = #[(.ref a1), (.ref a2)] ∧ Z.Warmed39 U.vm ∧ U.heap = h0) (fun _ _ _ _ _ => True) (fun _ U o U' => ∃ v L, o = .returned v ∧ QrmAdd Z a1 a2 x s1 y s2 h0 n0 v U'.heap L ∧ FrameEnd U o U' L ({ frames := 7, cells := 1, slots := 5, locals := 110 } : Room).cells ({ frames := 7, cells := 1, slots := 5, locals := 110 } : Room).slots) := by
  refine MetFree.of_bodySF (plainFor_of_name pn_java_math_BigDecimal) hisR ?_
  intro p e s m args below meth c s₁ Bd hml0 hP hK
  obtain ⟨rfl, hZ, hh⟩ := hP
  have hx := Bd.exec
  have hby := Bd.bytes
  have hml : c.maxLocals = 2 := hml0
  have hown : s.vm.findClass "java/math/BigDecimal" = some m.cls := findClass_of_methodNamed Bd.named
  have hnm := (name_of_methodNamed Bd.named Bd.method).1
  have X0 : Stand p l e ({ frames := 7, cells := 1, slots := 5, locals := 110 } : Room) s m #[(.ref a1), (.ref a2)] below meth c s₁ [] 0 0 := Stand.of_body Bd
  have e0 : s₁.heap = h0 := by rw [← hh, Bd.state]; rfl
  have N0 := Fr.nil n0
  have pre0 : ∀ t, Steps p.tables e below (s₁.setTop (mkF m 0 #[.val (.ref a1), .val (.ref a2)] [])) t → Steps p.tables e below (s₁.setTop (entryFrame m #[(.ref a1), (.ref a2)] 2)) t := fun t k => castTop (ef_rmAdd m a1 a2) k
  obtain ⟨T1, X1, e1, st1⟩ := getF X0 hx hZ hown (host := "") (Or.inl (own_w hw 35 rfl)) Via.refl e0 B1.2.2 (g := (mkF m 1 #[.val (.ref a1), .val (.ref a2)] [(.ref a1)])) rfl rfl (hb hby d14_1)
  obtain ⟨T2, X2, e2, st2⟩ := getF X1 hx hZ hown (host := "") (Or.inl (own_w hw 35 rfl)) Via.refl e1 B2.2.2 (g := (mkF m 12 #[.val (.ref a1), .val (.ref a2)] [(.ref a2)])) rfl rfl (hb hby d14_12)
  obtain ⟨T3, X3, e3, st3⟩ := getF X2 hx hZ hown (host := "") (Or.inl (own_w hw 35 rfl)) Via.refl e2 B1.2.2 (g := (mkF m 23 #[.val (.ref a1), .val (.ref a2)] [(.ref a1)])) rfl rfl (hb hby d14_23)
  obtain ⟨T4, X4, e4, st4⟩ := getF X3 hx hZ hown (host := "") (Or.inl (own_w hw 31 rfl)) Via.refl e3 B1.2.1 (g := (mkF m 27 #[.val (.ref a1), .val (.ref a2)] [(.ref a1), (.long x)])) rfl rfl (hb hby d14_27)
  obtain ⟨T5, X5, e5, st5⟩ := getF X4 hx hZ hown (host := "") (Or.inl (own_w hw 35 rfl)) Via.refl e4 B2.2.2 (g := (mkF m 31 #[.val (.ref a1), .val (.ref a2)] [(.ref a2), (.int s1), (.long x)])) rfl rfl (hb hby d14_31)
  obtain ⟨T6, X6, e6, st6⟩ := getF X5 hx hZ hown (host := "") (Or.inl (own_w hw 31 rfl)) Via.refl e5 B2.2.1 (g := (mkF m 35 #[.val (.ref a1), .val (.ref a2)] [(.ref a2), (.long y), (.int s1), (.long x)])) rfl rfl (hb hby d14_35)
  obtain ⟨_, _, ⟨T7, L7, k7, n7⟩, -, X7, ⟨Lc7, hQ7, l7, y7, z7⟩, st7⟩ := Jvm.LawKit.callS X6 hx (y := m_37) hown (mvT hZ (own_w hw 89 rfl)) (mvT hZ (own_w hw 90 rfl)) (mvT hZ (own_w hw 9 rfl)) (mvT hZ (own_w hw 91 rfl)) (by decide) (backOf (W := 0) (rmAdd4 l Z a0 hw [] x s1 y s2  h0 n0 Z0 J O0 hx_ hy_ hs1 hs2) hZ (own_w hw 91 rfl) (own_w hw 9 rfl) (by decide) (by decide)) (g := (mkF m 38 #[.val (.ref a1), .val (.ref a2)] [(.int s2), (.long y), (.int s1), (.long x)])) rfl (by rw [hml]; rfl) (argsL := [(.long x), (.int s1), (.long y), (.int s2)]) (rest := []) (lenOf pd_13 rfl) rfl (by show 2 * 0 + _ ≤ _; exact Nat.le_of_eq rfl) (hb hby d14_38) (fun _ _ => ⟨rfl, e6, (by decide : 0 + 1 ≤ _), (by decide : 0 + 5 ≤ _)⟩)
  dsimp only [Pt.U, Pt.locs, Pt.cells, Pt.slots] at X7 l7 y7 z7 st7 hQ7
  subst y7 z7
  obtain ⟨b7, rfl, N7q, K7, q7, B7, P7⟩ := hQ7
  have N7 : Fr n0 L7 := by rw [l7]; exact Fr.app N0 N7q
  have Z8 : n0 ≤ T7.heap.size := Nat.le_trans Z0 K7.1
  obtain ⟨fs, hr, hrun, hended, hW, hsame⟩ := X7.leave (v := some (.ref b7)) (fun h => by rw [Bd.returns] at h; cases h) Bd.notSynchronized
  refine ⟨_, _, pre0 _ ?_, hrun, hended, _, _, rfl, ?_, ⟨_, rfl⟩, hW, hsame.mono (by decide) (by decide)⟩
  · show Steps p.tables e below (s₁.setTop (mkF m 0 #[.val (.ref a1), .val (.ref a2)] [])) _
    refine XS.aloadN X0.here hx rfl (hb hby d14_0) rfl rfl ?_
    refine st1 _ ?_
    refine X1.ldc2Long hx hown (mvT hZ (own_w hw 17 rfl)) (g := (mkF m 4 #[.val (.ref a1), .val (.ref a2)] [(.long x)])) rfl (hb hby d14_4) _ ?_
    refine XS.lcmp X1.here hx rfl (hb hby d14_7) rfl ?_
    refine XS.ifNo X1.here hx rfl (hb hby d14_8) rfl ((if0 _ _).trans (feq (own_hm hx_.b.h : ¬ ((lcmpW x (-9223372036854775808 : Int64)) = (0 : Int32)))).1) ?_
    refine XS.aloadN X1.here hx rfl (hb hby d14_11) rfl rfl ?_
    refine st2 _ ?_
    refine X2.ldc2Long hx hown (mvT hZ (own_w hw 17 rfl)) (g := (mkF m 15 #[.val (.ref a1), .val (.ref a2)] [(.long y)])) rfl (hb hby d14_15) _ ?_
    refine XS.lcmp X2.here hx rfl (hb hby d14_18) rfl ?_
    refine XS.ifNo X2.here hx rfl (hb hby d14_19) rfl ((if0 _ _).trans (feq (own_hm hy_.b.h : ¬ ((lcmpW y (-9223372036854775808 : Int64)) = (0 : Int32)))).1) ?_
    refine XS.aloadN X2.here hx rfl (hb hby d14_22) rfl rfl ?_
    refine st3 _ ?_
    refine XS.aloadN X3.here hx rfl (hb hby d14_26) rfl rfl ?_
    refine st4 _ ?_
    refine XS.aloadN X4.here hx rfl (hb hby d14_30) rfl rfl ?_
    refine st5 _ ?_
    refine XS.aloadN X5.here hx rfl (hb hby d14_34) rfl rfl ?_
    refine st6 _ ?_
    refine st7 _ ?_
    show Steps p.tables e below (T7.setTop (mkF m 41 #[.val (.ref a1), .val (.ref a2)] [(.ref b7)])) _
    jvm_step X7.here [X7.here.top, hx, (hb hby d14_41), X7.method', Bd.returns, Value.isRef, FieldType.isReference]
    first | (intro acts; rw [hr _ acts rfl rfl rfl]) | rw [hr _ _ rfl rfl rfl]
    exact Steps.refl _
  · show QrmAdd Z a1 a2 x s1 y s2 h0 n0 _ T7.heap _
    exact ⟨b7, rfl, N7, by exact ⟨K7, q7, B7, P7⟩⟩
def own_rm (z d : Int64) : Int64 := z - (z / d) * d
def own_cm (z d : Int64) : Int32 := own_ni (own_lc (own_abs ((2 : Int64) * own_rm z d)) (own_abs d))
def own_qs (z : Int64) : Int32 := if lcmpW z (0 : Int64) < (0 : Int32) then (-1 : Int32) else (1 : Int32)
def own_dv (z d : Int64) : Int64 := if lcmpW (own_rm z d) (0 : Int64) = (0 : Int32) then z / d else if own_cm z d = (0 : Int32) then z / d else z / d + (own_qs z).toInt64
/-- what is known of the divisor -/
def own_D (d : Int64) : Prop := 10 ≤ d.toInt ∧ d.toInt ≤ 10000000
theorem own_D.nz {d : Int64} (h : own_D d) : ¬ (d = 0) := fun e => by
  have h1 := h.1
  rw [e] at h1
  have : (0 : Int64).toInt = 0 := rfl
  omega
theorem own_D.pos {d : Int64} (h : own_D d) : ¬ (lcmpW d (0 : Int64) < (0 : Int32)) := by
  rw [lw_lt, Int64.lt_iff_toInt_lt]
  have : (0 : Int64).toInt = 0 := rfl
  have h1 := h.1
  omega
theorem own_D.m1 {d : Int64} (h : own_D d) : d ≠ -1 := fun e => by
  have h1 := h.1
  rw [e] at h1
  have : (-1 : Int64).toInt = -1 := by decide
  omega
theorem own_qr {z d : Int64} (hd : own_D d) : (0 ≤ z.toInt → (z / d).toInt = z.toInt / d.toInt ∧ (own_rm z d).toInt = z.toInt % d.toInt) ∧ (z.toInt < 0 → (z / d).toInt = -((-z.toInt) / d.toInt) ∧ (own_rm z d).toInt = -((-z.toInt) % d.toInt)) := by
  have a := c_ldiv z d d.toInt rfl hd.m1
  have b := c_lrem z d d.toInt rfl
  exact ⟨fun h => ⟨a.1 h, b.1 h⟩, fun h => ⟨a.2 h, b.2 h⟩⟩
/-- quotient and remainder, as integers -/
theorem own_qri {z d : Int64} (hd : own_D d) : ∃ q r : Int, (z / d).toInt = q ∧ (own_rm z d).toInt = r ∧ z.toInt = q * d.toInt + r ∧ (0 ≤ z.toInt → 0 ≤ r ∧ r < d.toInt ∧ 0 ≤ q ∧ q ≤ z.toInt) ∧ (z.toInt < 0 → -d.toInt < r ∧ r ≤ 0 ∧ q ≤ 0 ∧ z.toInt ≤ q) := by
  obtain ⟨a, b⟩ := own_qr (z := z) hd
  obtain ⟨h1, h2⟩ := hd
  by_cases h : 0 ≤ z.toInt
  · obtain ⟨a1, a2⟩ := a h
    have e := Int.emod_add_mul_ediv z.toInt d.toInt
    have n := Int.emod_nonneg z.toInt (show d.toInt ≠ 0 by omega)
    have m := Int.emod_lt_of_pos z.toInt (show 0 < d.toInt by omega)
    have q0 := Int.ediv_nonneg h (show 0 ≤ d.toInt by omega)
    have q1 := Int.ediv_le_self d.toInt h
    refine ⟨_, _, a1, a2, ?_, fun _ => ⟨n, m, q0, q1⟩, fun y => absurd h (by omega)⟩
    rw [Int.mul_comm]; omega
  · obtain ⟨a1, a2⟩ := b (by omega)
    have e := Int.emod_add_mul_ediv (-z.toInt) d.toInt
    have n := Int.emod_nonneg (-z.toInt) (show d.toInt ≠ 0 by omega)
    have m := Int.emod_lt_of_pos (-z.toInt) (show 0 < d.toInt by omega)
    have q0 := Int.ediv_nonneg (show 0 ≤ -z.toInt by omega) (show 0 ≤ d.toInt by omega)
    have q1 := Int.ediv_le_self d.toInt (show 0 ≤ -z.toInt by omega)
    refine ⟨_, _, a1, a2, ?_, fun y => absurd y h, fun _ => ⟨by omega, by omega, by omega, by omega⟩⟩
    rw [Int.neg_mul, Int.mul_comm]; omega
theorem own_rb {z d : Int64} (hd : own_D d) : (0 : Int32) < lcmpW (own_rm z d) (-4611686018427387904 : Int64) ∧ ¬ ((0 : Int32) < lcmpW (own_rm z d) (4611686018427387903 : Int64)) := by
  obtain ⟨q, r, -, e, -, p, n⟩ := own_qri (z := z) hd
  obtain ⟨h1, h2⟩ := hd
  rw [lw_gt, lw_gt, Int64.lt_iff_toInt_lt, Int64.lt_iff_toInt_lt, e, show (-4611686018427387904 : Int64).toInt = -4611686018427387904 by decide, show (4611686018427387903 : Int64).toInt = 4611686018427387903 by decide]
  by_cases h : 0 ≤ z.toInt
  · have := p h; omega
  · have := n (by omega); omega
theorem own_qsv (z : Int64) : (z.toInt < 0 → (own_qs z).toInt64.toInt = -1) ∧ (0 ≤ z.toInt → (own_qs z).toInt64.toInt = 1) := by
  have k0 : (0 : Int64).toInt = 0 := rfl
  constructor
  · intro h
    rw [own_qs, if_pos (by rw [lw_lt, Int64.lt_iff_toInt_lt]; omega)]; decide
  · intro h
    rw [own_qs, if_neg (by rw [lw_lt, Int64.lt_iff_toInt_lt]; omega)]; decide
theorem own_q1 {z d : Int64} (hz : own_HB z) (hd : own_D d) : (z / d + (own_qs z).toInt64).toInt = (z / d).toInt + (own_qs z).toInt64.toInt ∧ own_HB (z / d) ∧ own_HB (z / d + (own_qs z).toInt64) := by
  obtain ⟨q, r, e1, e2, e3, p, n⟩ := own_qri (z := z) hd
  obtain ⟨s1, s2⟩ := own_qsv z
  obtain ⟨z1, z2⟩ := hz
  obtain ⟨h1, h2⟩ := hd
  have a := c_ladd (z / d) (own_qs z).toInt64; have b := Int64.toInt_lt (z / d + (own_qs z).toInt64); have c := Int64.le_toInt (z / d + (own_qs z).toInt64)
  unfold own_HB
  by_cases h : 0 ≤ z.toInt
  · have t := p h
    have m : q * 10 ≤ q * d.toInt := Int.mul_le_mul_of_nonneg_left h1 (by omega)
    have := s2 h
    omega
  · have t := n (by omega)
    have m : q * d.toInt ≤ q * 10 := Int.mul_le_mul_of_nonpos_left (by omega) h1
    have := s1 (by omega)
    omega
theorem own_dvB {z d : Int64} (hz : own_HB z) (hd : own_D d) : own_HB (own_dv z d) := by
  obtain ⟨-, a, b⟩ := own_q1 hz hd
  unfold own_dv
  split
  · exact a
  · split
    · exact a
    · exact b
/-- the rounded quotient times the divisor is the number itself just where nothing is left over -/
theorem own_dvm {z d : Int64} (hz : own_HB z) (hd : own_D d) : (own_dv z d).toInt * d.toInt = z.toInt ↔ own_rm z d = 0 := by
  obtain ⟨q, r, e1, e2, e3, p, n⟩ := own_qri (z := z) hd
  obtain ⟨f1, -, -⟩ := own_q1 hz hd
  obtain ⟨s1, s2⟩ := own_qsv z
  have k0 : (0 : Int64).toInt = 0 := rfl
  have rz : own_rm z d = 0 ↔ r = 0 := by rw [← Int64.toInt_inj, e2, k0]
  rw [rz]
  have hd' := hd
  obtain ⟨h1, h2⟩ := hd'
  by_cases c1 : lcmpW (own_rm z d) (0 : Int64) = (0 : Int32)
  · have : r = 0 := rz.mp ((lw_eq _ _).mp c1)
    rw [own_dv, if_pos c1, e1]
    constructor
    · intro _; exact this
    · intro _; omega
  · have r0 : ¬ (r = 0) := fun y => c1 ((lw_eq _ _).mpr (rz.mpr y))
    by_cases c2 : own_cm z d = (0 : Int32)
    · rw [own_dv, if_neg c1, if_pos c2, e1]
      constructor
      · intro y; omega
      · intro y; exact absurd y r0
    · rw [own_dv, if_neg c1, if_neg c2, f1, e1]
      constructor
      · intro y
        by_cases h : 0 ≤ z.toInt
        · rw [s2 h, Int.add_mul] at y; have := p h; omega
        · rw [s1 (by omega), Int.add_mul] at y; have := n (by omega); omega
      · intro y; exact absurd y r0
theorem own_dv0 {d : Int64} (hd : own_D d) : own_dv 0 d = 0 := by
  obtain ⟨a, -⟩ := own_qr (z := 0) hd
  have k0 : (0 : Int64).toInt = 0 := rfl
  obtain ⟨a1, a2⟩ := a (by rw [k0]; omega)
  rw [k0] at a1 a2
  have r0 : own_rm 0 d = 0 := Int64.toInt_inj.mp (by rw [a2, k0]; simp)
  rw [own_dv, if_pos ((lw_eq _ _).mpr r0)]
  exact Int64.toInt_inj.mp (by rw [a1, k0]; simp)
theorem d32_0 : decode c_4 0 = .ok (.lload_n 0, 1) := by decide +kernel
theorem d32_1 : decode c_4 1 = .ok (.lload_n 2, 1) := by decide +kernel
theorem d32_2 : decode c_4 2 = .ok (.ldiv, 1) := by decide +kernel
theorem d32_3 : decode c_4 3 = .ok (.lstore 8, 2) := by decide +kernel
theorem d32_5 : decode c_4 5 = .ok (.iload 5, 2) := by decide +kernel
theorem d32_7 : decode c_4 7 = .ok (.iconst 1, 1) := by decide +kernel
theorem d32_8 : decode c_4 8 = .ok (.if_icmp .ne 18, 3) := by decide +kernel
theorem d32_26 : decode c_4 26 = .ok (.lload_n 0, 1) := by decide +kernel
theorem d32_27 : decode c_4 27 = .ok (.lload_n 2, 1) := by decide +kernel
theorem d32_28 : decode c_4 28 = .ok (.lrem, 1) := by decide +kernel
theorem d32_29 : decode c_4 29 = .ok (.lstore 10, 2) := by decide +kernel
theorem d32_31 : decode c_4 31 = .ok (.lload_n 0, 1) := by decide +kernel
theorem d32_32 : decode c_4 32 = .ok (.lconst 0, 1) := by decide +kernel
theorem d32_33 : decode c_4 33 = .ok (.lcmp, 1) := by decide +kernel
theorem d32_34 : decode c_4 34 = .ok (.ifCond .ge 7, 3) := by decide +kernel
theorem d32_37 : decode c_4 37 = .ok (.iconst 1, 1) := by decide +kernel
theorem d32_38 : decode c_4 38 = .ok (.goto 4, 3) := by decide +kernel
theorem d32_42 : decode c_4 42 = .ok (.lload_n 2, 1) := by decide +kernel
theorem d32_43 : decode c_4 43 = .ok (.lconst 0, 1) := by decide +kernel
theorem d32_44 : decode c_4 44 = .ok (.lcmp, 1) := by decide +kernel
theorem d32_45 : decode c_4 45 = .ok (.ifCond .ge 7, 3) := by decide +kernel
theorem d32_52 : decode c_4 52 = .ok (.iconst 0, 1) := by decide +kernel
theorem d32_53 : decode c_4 53 = .ok (.if_icmp .ne 7, 3) := by decide +kernel
theorem d32_60 : decode c_4 60 = .ok (.iconst (-1), 1) := by decide +kernel
theorem d32_61 : decode c_4 61 = .ok (.istore 7, 2) := by decide +kernel
theorem d32_63 : decode c_4 63 = .ok (.lload 10, 2) := by decide +kernel
theorem d32_65 : decode c_4 65 = .ok (.lconst 0, 1) := by decide +kernel
theorem d32_66 : decode c_4 66 = .ok (.lcmp, 1) := by decide +kernel
theorem d32_67 : decode c_4 67 = .ok (.ifCond .eq 39, 3) := by decide +kernel
theorem d32_106 : decode c_4 106 = .ok (.iload 6, 2) := by decide +kernel
theorem d32_108 : decode c_4 108 = .ok (.iload 4, 2) := by decide +kernel
theorem d32_110 : decode c_4 110 = .ok (.if_icmp .eq 14, 3) := by decide +kernel
theorem d32_124 : decode c_4 124 = .ok (.lload 8, 2) := by decide +kernel
theorem d32_126 : decode c_4 126 = .ok (.iload 4, 2) := by decide +kernel
theorem d32_128 : decode c_4 128 = .ok (.invokestatic 328, 3) := by decide +kernel
theorem d32_131 : decode c_4 131 = .ok (.areturn, 1) := by decide +kernel
theorem d32_70 : decode c_4 70 = .ok (.lload_n 2, 1) := by decide +kernel
theorem d32_71 : decode c_4 71 = .ok (.iload 5, 2) := by decide +kernel
theorem d32_73 : decode c_4 73 = .ok (.iload 7, 2) := by decide +kernel
theorem d32_75 : decode c_4 75 = .ok (.lload 8, 2) := by decide +kernel
theorem d32_77 : decode c_4 77 = .ok (.lload 10, 2) := by decide +kernel
theorem d32_79 : decode c_4 79 = .ok (.invokestatic 924, 3) := by decide +kernel
theorem pd_14 : parseMethodDescriptor "(JIIJJ)Z" = some ⟨[.long, .int, .int, .long, .long], some .boolean⟩ := by decide +kernel
theorem d32_82 : decode c_4 82 = .ok (.istore 12, 2) := by decide +kernel
theorem d32_84 : decode c_4 84 = .ok (.iload 12, 2) := by decide +kernel
theorem d32_86 : decode c_4 86 = .ok (.ifCond .eq 12, 3) := by decide +kernel
theorem d32_98 : decode c_4 98 = .ok (.lload 8, 2) := by decide +kernel
theorem d32_100 : decode c_4 100 = .ok (.iload 4, 2) := by decide +kernel
theorem d32_102 : decode c_4 102 = .ok (.invokestatic 328, 3) := by decide +kernel
theorem d32_105 : decode c_4 105 = .ok (.areturn, 1) := by decide +kernel
theorem d32_89 : decode c_4 89 = .ok (.lload 8, 2) := by decide +kernel
theorem d32_91 : decode c_4 91 = .ok (.iload 7, 2) := by decide +kernel
theorem d32_93 : decode c_4 93 = .ok (.i2l, 1) := by decide +kernel
theorem d32_94 : decode c_4 94 = .ok (.ladd, 1) := by decide +kernel
theorem d32_95 : decode c_4 95 = .ok (.goto 5, 3) := by decide +kernel
theorem d32_41 : decode c_4 41 = .ok (.iconst 0, 1) := by decide +kernel
theorem d32_56 : decode c_4 56 = .ok (.iconst 1, 1) := by decide +kernel
theorem d32_57 : decode c_4 57 = .ok (.goto 4, 3) := by decide +kernel
theorem ef_rmDar (m : MethodId) (x0 : Int64) (x1 : Int64) (x2 : Int32) (x3 : Int32) (x4 : Int32) : entryFrame m #[(.long x0), (.long x1), (.int x2), (.int x3), (.int x4)] 13 = mkF m 0 #[.val (.long x0), .second, .val (.long x1), .second, .val (.int x2), .val (.int x3), .val (.int x4), .unset, .unset, .unset, .unset, .unset, .unset] [] := by first | (simp [entryFrame, mkF, argsToLocals, Value.category]; done) | rfl
def QrmDar (Z : State) (z : Int64) (d : Int64) (p1 : Int32) (p2 : Int32)  (h0 : Heap) (n0 : Nat) (v : Option Value) (h : Heap) (L : List Loc) : Prop := ∃ b, v = some (.ref b) ∧ Fr n0 L ∧ own_QB Z h0 h n0 b p1 (own_dv z d)
theorem rmDar (l : Launch) (Z : State) (a0 : Array Value) (hw : ∀ d ∈ tables_1, d.before a0 Z = true) (ws : List Jvm.Cond) (z : Int64) (d : Int64) (p1 : Int32) (p2 : Int32)  (h0 : Heap) (n0 : Nat) (Z0 : n0 ≤ h0.size) (J : own_J Z) (O0 : Old Z n0 h0) (hD : own_D d) (hz : own_HB z) (hpp : p2 = p1) (hp1 : own_S8 p1) :
    MetFree l m_38 (head1 (Jvm.Cond.code m_38 jdk_17_method_119_code 13 (some (.object "java/math/BigDecimal")) :: ws) ({ frames := 5, cells := 1, slots := 5, locals := 69 } : Room)) (fun a U => a = #[(.long z), (.long d), (.int p1), (.int (4 : Int32)), (.int p2)] ∧ Z.Warmed39 U.vm ∧ U.heap = h0) (fun _ _ _ _ _ => True) (fun _ U o U' => ∃ v L, o = .returned v ∧ QrmDar Z z d p1 p2  h0 n0 v U'.heap L ∧ FrameEnd U o U' L ({ frames := 5, cells := 1, slots := 5, locals := 69 } : Room).cells ({ frames := 5, cells := 1, slots := 5, locals := 69 } : Room).slots) := by
  refine MetFree.of_bodySF (plainFor_of_name pn_java_math_BigDecimal) hisR ?_
  intro p e s m args below meth c s₁ Bd hml0 hP hK
  obtain ⟨rfl, hZ, hh⟩ := hP
  have hx := Bd.exec
  have hby := Bd.bytes
  have hml : c.maxLocals = 13 := hml0
  have hown : s.vm.findClass "java/math/BigDecimal" = some m.cls := findClass_of_methodNamed Bd.named
  have hnm := (name_of_methodNamed Bd.named Bd.method).1
  have X0 : Stand p l e ({ frames := 5, cells := 1, slots := 5, locals := 69 } : Room) s m #[(.long z), (.long d), (.int p1), (.int (4 : Int32)), (.int p2)] below meth c s₁ [] 0 0 := Stand.of_body Bd
  have e0 : s₁.heap = h0 := by rw [← hh, Bd.state]; rfl
  have N0 := Fr.nil n0
  have pre0 : ∀ t, Steps p.tables e below (s₁.setTop (mkF m 0 #[.val (.long z), .second, .val (.long d), .second, .val (.int p1), .val (.int (4 : Int32)), .val (.int p2), .unset, .unset, .unset, .unset, .unset, .unset] [])) t → Steps p.tables e below (s₁.setTop (entryFrame m #[(.long z), (.long d), (.int p1), (.int (4 : Int32)), (.int p2)] 13)) t := fun t k => castTop (ef_rmDar m z d p1 (4 : Int32) p2) k
  have pk1 : ∀ target, Steps p.tables e below (s₁.setTop (mkF m 34 #[.val (.long z), .second, .val (.long d), .second, .val (.int p1), .val (.int (4 : Int32)), .val (.int p2), .unset, .val (.long (z / d)), .second, .val (.long (own_rm z d)), .second, .unset] [(.int (lcmpW z (0 : Int64)))])) target → Steps p.tables e below (s₁.setTop (mkF m 0 #[.val (.long z), .second, .val (.long d), .second, .val (.int p1), .val (.int (4 : Int32)), .val (.int p2), .unset, .unset, .unset, .unset, .unset, .unset] [])) target := by
    intro target kt
    show Steps p.tables e below (s₁.setTop (mkF m 0 #[.val (.long z), .second, .val (.long d), .second, .val (.int p1), .val (.int (4 : Int32)), .val (.int p2), .unset, .unset, .unset, .unset, .unset, .unset] [])) _
    refine XS.lloadN X0.here hx rfl (hb hby d32_0) rfl ?_
    refine XS.lloadN X0.here hx rfl (hb hby d32_1) rfl ?_
    refine XS.ldiv X0.here hx rfl (hb hby d32_2) rfl hD.nz ?_
    refine XS.lstore X0.here hx rfl (hb hby d32_3) rfl (l' := #[.val (.long z), .second, .val (.long d), .second, .val (.int p1), .val (.int (4 : Int32)), .val (.int p2), .unset, .val (.long (z / d)), .second, .unset, .unset, .unset]) rfl ?_
    refine XS.iload X0.here hx rfl (hb hby d32_5) rfl ?_
    refine XS.iconst X0.here hx rfl (hb hby d32_7) ?_
    refine XS.icmpYes X0.here hx rfl (pc0 := 8) (pc' := 26) rfl (hb hby d32_8) rfl (feq (by decide : ¬ ((4 : Int32) = (1 : Int32)))).2 (by decide) (by decide) ?_
    refine XS.lloadN X0.here hx rfl (hb hby d32_26) rfl ?_
    refine XS.lloadN X0.here hx rfl (hb hby d32_27) rfl ?_
    refine XS.lrem X0.here hx rfl (hb hby d32_28) rfl hD.nz ?_
    refine XS.lstore X0.here hx rfl (hb hby d32_29) rfl (l' := #[.val (.long z), .second, .val (.long d), .second, .val (.int p1), .val (.int (4 : Int32)), .val (.int p2), .unset, .val (.long (z / d)), .second, .val (.long (own_rm z d)), .second, .unset]) rfl ?_
    refine XS.lloadN X0.here hx rfl (hb hby d32_31) rfl ?_
    refine XS.lconst X0.here hx rfl (hb hby d32_32) ?_
    refine XS.lcmp X0.here hx rfl (hb hby d32_33) rfl ?_
    exact kt
  by_cases hq1 : (lcmpW z (0 : Int64)) < (0 : Int32)
  · have pk2 : ∀ target, Steps p.tables e below (s₁.setTop (mkF m 67 #[.val (.long z), .second, .val (.long d), .second, .val (.int p1), .val (.int (4 : Int32)), .val (.int p2), .val (.int (-1 : Int32)), .val (.long (z / d)), .second, .val (.long (own_rm z d)), .second, .unset] [(.int (lcmpW (own_rm z d) (0 : Int64)))])) target → Steps p.tables e below (s₁.setTop (mkF m 0 #[.val (.long z), .second, .val (.long d), .second, .val (.int p1), .val (.int (4 : Int32)), .val (.int p2), .unset, .unset, .unset, .unset, .unset, .unset] [])) target := by
      intro target kt
      refine pk1 _ ?_
      show Steps p.tables e below (s₁.setTop (mkF m 34 #[.val (.long z), .second, .val (.long d), .second, .val (.int p1), .val (.int (4 : Int32)), .val (.int p2), .unset, .val (.long (z / d)), .second, .val (.long (own_rm z d)), .second, .unset] [(.int (lcmpW z (0 : Int64)))])) _
      refine XS.ifNo X0.here hx rfl (hb hby d32_34) rfl ((if0 _ _).trans (tlt (hq1 : (lcmpW z (0 : Int64)) < (0 : Int32))).2.1) ?_
      refine XS.iconst X0.here hx rfl (hb hby d32_37) ?_
      refine XS.goto X0.here hx rfl (pc0 := 38) (pc' := 42) rfl (hb hby d32_38) (by decide) (by decide) ?_
      refine XS.lloadN X0.here hx rfl (hb hby d32_42) rfl ?_
      refine XS.lconst X0.here hx rfl (hb hby d32_43) ?_
      refine XS.lcmp X0.here hx rfl (hb hby d32_44) rfl ?_
      refine XS.ifYes X0.here hx rfl (pc0 := 45) (pc' := 52) rfl (hb hby d32_45) rfl ((if0 _ _).trans (flt (hD.pos : ¬ ((lcmpW d (0 : Int64)) < (0 : Int32)))).2.1) (by decide) (by decide) ?_
      refine XS.iconst X0.here hx rfl (hb hby d32_52) ?_
      refine XS.icmpYes X0.here hx rfl (pc0 := 53) (pc' := 60) rfl (hb hby d32_53) rfl (feq (by decide : ¬ ((1 : Int32) = (0 : Int32)))).2 (by decide) (by decide) ?_
      refine XS.iconst X0.here hx rfl (hb hby d32_60) ?_
      refine XS.istore X0.here hx rfl (hb hby d32_61) rfl (l' := #[.val (.long z), .second, .val (.long d), .second, .val (.int p1), .val (.int (4 : Int32)), .val (.int p2), .val (.int (-1 : Int32)), .val (.long (z / d)), .second, .val (.long (own_rm z d)), .second, .unset]) rfl ?_
      refine XS.lload X0.here hx rfl (hb hby d32_63) rfl ?_
      refine XS.lconst X0.here hx rfl (hb hby d32_65) ?_
      refine XS.lcmp X0.here hx rfl (hb hby d32_66) rfl ?_
      exact kt
    by_cases hq2 : (lcmpW (own_rm z d) (0 : Int64)) = (0 : Int32)
    · obtain ⟨_, _, ⟨T3, L3, k3, n3⟩, -, X3, ⟨Lc3, hQ3, l3, y3, z3⟩, st3⟩ := Jvm.LawKit.callS X0 hx (y := m_0) hown (mvT hZ (own_w hw 110 rfl)) (mvT hZ (own_w hw 8 rfl)) (mvT hZ (own_w hw 9 rfl)) (mvT hZ (own_w hw 10 rfl)) (by decide) (backOf (W := 0) (rmV2 l Z a0 hw [] (z / d) p1  h0 n0 Z0 J O0 (own_hm (own_q1 hz hD).2.1) (own_16 hp1)) hZ (own_w hw 10 rfl) (own_w hw 9 rfl) (by decide) (by decide)) (g := (mkF m 128 #[.val (.long z), .second, .val (.long d), .second, .val (.int p1), .val (.int (4 : Int32)), .val (.int p2), .val (.int (-1 : Int32)), .val (.long (z / d)), .second, .val (.long (own_rm z d)), .second, .unset] [(.int p1), (.long (z / d))])) rfl (by rw [hml]; rfl) (argsL := [(.long (z / d)), (.int p1)]) (rest := []) (lenOf pd_10 rfl) rfl (by show 2 * 0 + _ ≤ _; exact Nat.le_of_eq rfl) (hb hby d32_128) (fun _ _ => ⟨rfl, e0, (by decide : 0 + 1 ≤ _), (by decide : 0 + 5 ≤ _)⟩)
      dsimp only [Pt.U, Pt.locs, Pt.cells, Pt.slots] at X3 l3 y3 z3 st3 hQ3
      subst y3 z3
      obtain ⟨b3, rfl, N3q, K3, q3, B3, P3⟩ := hQ3
      have N3 : Fr n0 L3 := by rw [l3]; exact Fr.app N0 N3q
      have Z4 : n0 ≤ T3.heap.size := Nat.le_trans Z0 K3.1
      obtain ⟨fs, hr, hrun, hended, hW, hsame⟩ := X3.leave (v := some (.ref b3)) (fun h => by rw [Bd.returns] at h; cases h) Bd.notSynchronized
      refine ⟨_, _, pre0 _ ?_, hrun, hended, _, _, rfl, ?_, ⟨_, rfl⟩, hW, hsame.mono (by decide) (by decide)⟩
      · refine pk2 _ ?_
        show Steps p.tables e below (s₁.setTop (mkF m 67 #[.val (.long z), .second, .val (.long d), .second, .val (.int p1), .val (.int (4 : Int32)), .val (.int p2), .val (.int (-1 : Int32)), .val (.long (z / d)), .second, .val (.long (own_rm z d)), .second, .unset] [(.int (lcmpW (own_rm z d) (0 : Int64)))])) _
        refine XS.ifYes X0.here hx rfl (pc0 := 67) (pc' := 106) rfl (hb hby d32_67) rfl ((if0 _ _).trans (teq (hq2 : (lcmpW (own_rm z d) (0 : Int64)) = (0 : Int32))).1) (by decide) (by decide) ?_
        refine XS.iload X0.here hx rfl (hb hby d32_106) rfl ?_
        refine XS.iload X0.here hx rfl (hb hby d32_108) rfl ?_
        refine XS.icmpYes X0.here hx rfl (pc0 := 110) (pc' := 124) rfl (hb hby d32_110) rfl (teq (hpp : p2 = p1)).1 (by decide) (by decide) ?_
        refine XS.lload X0.here hx rfl (hb hby d32_124) rfl ?_
        refine XS.iload X0.here hx rfl (hb hby d32_126) rfl ?_
        refine st3 _ ?_
        show Steps p.tables e below (T3.setTop (mkF m 131 #[.val (.long z), .second, .val (.long d), .second, .val (.int p1), .val (.int (4 : Int32)), .val (.int p2), .val (.int (-1 : Int32)), .val (.long (z / d)), .second, .val (.long (own_rm z d)), .second, .unset] [(.ref b3)])) _
        jvm_step X3.here [X3.here.top, hx, (hb hby d32_131), X3.method', Bd.returns, Value.isRef, FieldType.isReference]
        first | (intro acts; rw [hr _ acts rfl rfl rfl]) | rw [hr _ _ rfl rfl rfl]
        exact Steps.refl _
      · show QrmDar Z z d p1 p2  h0 n0 _ T3.heap _
        exact ⟨b3, rfl, N3, by rw [own_dv, if_pos hq2]; exact ⟨K3, q3, B3, P3⟩⟩
    · obtain ⟨_, _, ⟨T3, L3, k3, n3⟩, -, X3, ⟨Lc3, hQ3, l3, y3, z3⟩, st3⟩ := Jvm.LawKit.callS X0 hx (y := m_20) hown (mvT hZ (own_w hw 179 rfl)) (mvT hZ (own_w hw 180 rfl)) (mvT hZ (own_w hw 9 rfl)) (mvT hZ (own_w hw 181 rfl)) (by decide) (backOf (W := 0) (rmNeed l Z a0 hw [] d (-1 : Int32) (z / d) (own_rm z d)  h0 n0 Z0 J O0 (own_rb hD).1 (own_rb hD).2) hZ (own_w hw 181 rfl) (own_w hw 9 rfl) (by decide) (by decide)) (g := (mkF m 79 #[.val (.long z), .second, .val (.long d), .second, .val (.int p1), .val (.int (4 : Int32)), .val (.int p2), .val (.int (-1 : Int32)), .val (.long (z / d)), .second, .val (.long (own_rm z d)), .second, .unset] [(.long (own_rm z d)), (.long (z / d)), (.int (-1 : Int32)), (.int (4 : Int32)), (.long d)])) rfl (by rw [hml]; rfl) (argsL := [(.long d), (.int (4 : Int32)), (.int (-1 : Int32)), (.long (z / d)), (.long (own_rm z d))]) (rest := []) (lenOf pd_14 rfl) rfl (by show 2 * 0 + _ ≤ _; exact Nat.le_of_eq rfl) (hb hby d32_79) (fun _ _ => ⟨rfl, e0, (by decide : 0 + 0 ≤ _), (by decide : 0 + 0 ≤ _)⟩)
      dsimp only [Pt.U, Pt.locs, Pt.cells, Pt.slots] at X3 l3 y3 z3 st3 hQ3
      subst y3 z3
      obtain ⟨rfl, N3q, e3⟩ := hQ3
      have N3 : Fr n0 L3 := by rw [l3]; exact Fr.app N0 N3q
      have pk4 : ∀ target, Steps p.tables e below (T3.setTop (mkF m 86 #[.val (.long z), .second, .val (.long d), .second, .val (.int p1), .val (.int (4 : Int32)), .val (.int p2), .val (.int (-1 : Int32)), .val (.long (z / d)), .second, .val (.long (own_rm z d)), .second, .val (.int (own_ni (own_lc (own_abs ((2 : Int64) * (own_rm z d))) (own_abs d))))] [(.int (own_ni (own_lc (own_abs ((2 : Int64) * (own_rm z d))) (own_abs d))))])) target → Steps p.tables e below (s₁.setTop (mkF m 0 #[.val (.long z), .second, .val (.long d), .second, .val (.int p1), .val (.int (4 : Int32)), .val (.int p2), .unset, .unset, .unset, .unset, .unset, .unset] [])) target := by
        intro target kt
        refine pk2 _ ?_
        show Steps p.tables e below (s₁.setTop (mkF m 67 #[.val (.long z), .second, .val (.long d), .second, .val (.int p1), .val (.int (4 : Int32)), .val (.int p2), .val (.int (-1 : Int32)), .val (.long (z / d)), .second, .val (.long (own_rm z d)), .second, .unset] [(.int (lcmpW (own_rm z d) (0 : Int64)))])) _
        refine XS.ifNo X0.here hx rfl (hb hby d32_67) rfl ((if0 _ _).trans (feq (hq2 : ¬ ((lcmpW (own_rm z d) (0 : Int64)) = (0 : Int32)))).1) ?_
        refine XS.lloadN X0.here hx rfl (hb hby d32_70) rfl ?_
        refine XS.iload X0.here hx rfl (hb hby d32_71) rfl ?_
        refine XS.iload X0.here hx rfl (hb hby d32_73) rfl ?_
        refine XS.lload X0.here hx rfl (hb hby d32_75) rfl ?_
        refine XS.lload X0.here hx rfl (hb hby d32_77) rfl ?_
        refine st3 _ ?_
        refine XS.istore X3.here hx rfl (hb hby d32_82) rfl (l' := #[.val (.long z), .second, .val (.long d), .second, .val (.int p1), .val (.int (4 : Int32)), .val (.int p2), .val (.int (-1 : Int32)), .val (.long (z / d)), .second, .val (.long (own_rm z d)), .second, .val (.int (own_ni (own_lc (own_abs ((2 : Int64) * (own_rm z d))) (own_abs d))))]) rfl ?_
        refine XS.iload X3.here hx rfl (hb hby d32_84) rfl ?_
        exact kt
      by_cases hq3 : (own_ni (own_lc (own_abs ((2 : Int64) * (own_rm z d))) (own_abs d))) = (0 : Int32)
      · obtain ⟨_, _, ⟨T5, L5, k5, n5⟩, -, X5, ⟨Lc5, hQ5, l5, y5, z5⟩, st5⟩ := Jvm.LawKit.callS X3 hx (y := m_0) hown (mvT hZ (own_w hw 110 rfl)) (mvT hZ (own_w hw 8 rfl)) (mvT hZ (own_w hw 9 rfl)) (mvT hZ (own_w hw 10 rfl)) (by decide) (backOf (W := 0) (rmV2 l Z a0 hw [] (z / d) p1  h0 n0 Z0 J O0 (own_hm (own_q1 hz hD).2.1) (own_16 hp1)) hZ (own_w hw 10 rfl) (own_w hw 9 rfl) (by decide) (by decide)) (g := (mkF m 102 #[.val (.long z), .second, .val (.long d), .second, .val (.int p1), .val (.int (4 : Int32)), .val (.int p2), .val (.int (-1 : Int32)), .val (.long (z / d)), .second, .val (.long (own_rm z d)), .second, .val (.int (own_ni (own_lc (own_abs ((2 : Int64) * (own_rm z d))) (own_abs d))))] [(.int p1), (.long (z / d))])) rfl (by rw [hml]; rfl) (argsL := [(.long (z / d)), (.int p1)]) (rest := []) (lenOf pd_10 rfl) rfl (by show 2 * 0 + _ ≤ _; exact Nat.le_of_eq rfl) (hb hby d32_102) (fun _ _ => ⟨rfl, e3, (by decide : 0 + 1 ≤ _), (by decide : 0 + 5 ≤ _)⟩)
        dsimp only [Pt.U, Pt.locs, Pt.cells, Pt.slots] at X5 l5 y5 z5 st5 hQ5
        subst y5 z5
        obtain ⟨b5, rfl, N5q, K5, q5, B5, P5⟩ := hQ5
        have N5 : Fr n0 L5 := by rw [l5]; exact Fr.app N3 N5q
        have Z6 : n0 ≤ T5.heap.size := Nat.le_trans Z0 K5.1
        obtain ⟨fs, hr, hrun, hended, hW, hsame⟩ := X5.leave (v := some (.ref b5)) (fun h => by rw [Bd.returns] at h; cases h) Bd.notSynchronized
        refine ⟨_, _, pre0 _ ?_, hrun, hended, _, _, rfl, ?_, ⟨_, rfl⟩, hW, hsame.mono (by decide) (by decide)⟩
        · refine pk4 _ ?_
          show Steps p.tables e below (T3.setTop (mkF m 86 #[.val (.long z), .second, .val (.long d), .second, .val (.int p1), .val (.int (4 : Int32)), .val (.int p2), .val (.int (-1 : Int32)), .val (.long (z / d)), .second, .val (.long (own_rm z d)), .second, .val (.int (own_ni (own_lc (own_abs ((2 : Int64) * (own_rm z d))) (own_abs d))))] [(.int (own_ni (own_lc (own_abs ((2 : Int64) * (own_rm z d))) (own_abs d))))])) _
          refine XS.ifYes X3.here hx rfl (pc0 := 86) (pc' := 98) rfl (hb hby d32_86) rfl ((if0 _ _).trans (teq (hq3 : (own_ni (own_lc (own_abs ((2 : Int64) * (own_rm z d))) (own_abs d))) = (0 : Int32))).1) (by decide) (by decide) ?_
          refine XS.lload X3.here hx rfl (hb hby d32_98) rfl ?_
          refine XS.iload X3.here hx rfl (hb hby d32_100) rfl ?_
          refine st5 _ ?_
          show Steps p.tables e below (T5.setTop (mkF m 105 #[.val (.long z), .second, .val (.long d), .second, .val (.int p1), .val (.int (4 : Int32)), .val (.int p2), .val (.int (-1 : Int32)), .val (.long (z / d)), .second, .val (.long (own_rm z d)), .second, .val (.int (own_ni (own_lc (own_abs ((2 : Int64) * (own_rm z d))) (own_abs d))))] [(.ref b5)])) _
          jvm_step X5.here [X5.here.top, hx, (hb hby d32_105), X5.method', Bd.returns, Value.isRef, FieldType.isReference]
          first | (intro acts; rw [hr _ acts rfl rfl rfl]) | rw [hr _ _ rfl rfl rfl]
          exact Steps.refl _
        · show QrmDar Z z d p1 p2  h0 n0 _ T5.heap _
          exact ⟨b5, rfl, N5, by rw [own_dv, if_neg hq2, if_pos (show own_cm z d = (0 : Int32) from hq3)]; exact ⟨K5, q5, B5, P5⟩⟩
      · have es : own_qs z = (-1 : Int32) := by rw [own_qs, if_pos hq1]
        obtain ⟨_, _, ⟨T5, L5, k5, n5⟩, -, X5, ⟨Lc5, hQ5, l5, y5, z5⟩, st5⟩ := Jvm.LawKit.callS X3 hx (y := m_0) hown (mvT hZ (own_w hw 110 rfl)) (mvT hZ (own_w hw 8 rfl)) (mvT hZ (own_w hw 9 rfl)) (mvT hZ (own_w hw 10 rfl)) (by decide) (backOf (W := 0) (rmV2 l Z a0 hw [] ((z / d) + ((own_qs z).toInt64)) p1  h0 n0 Z0 J O0 (own_hm (own_q1 hz hD).2.2) (own_16 hp1)) hZ (own_w hw 10 rfl) (own_w hw 9 rfl) (by decide) (by decide)) (g := (mkF m 102 #[.val (.long z), .second, .val (.long d), .second, .val (.int p1), .val (.int (4 : Int32)), .val (.int p2), .val (.int (own_qs z)), .val (.long (z / d)), .second, .val (.long (own_rm z d)), .second, .val (.int (own_ni (own_lc (own_abs ((2 : Int64) * (own_rm z d))) (own_abs d))))] [(.int p1), (.long ((z / d) + ((own_qs z).toInt64)))])) rfl (by rw [hml]; rfl) (argsL := [(.long ((z / d) + ((own_qs z).toInt64))), (.int p1)]) (rest := []) (lenOf pd_10 rfl) rfl (by show 2 * 0 + _ ≤ _; exact Nat.le_of_eq rfl) (hb hby d32_102) (fun _ _ => ⟨rfl, e3, (by decide : 0 + 1 ≤ _), (by decide : 0 + 5 ≤ _)⟩)
        dsimp only [Pt.U, Pt.locs, Pt.cells, Pt.slots] at X5 l5 y5 z5 st5 hQ5
        subst y5 z5
        obtain ⟨b5, rfl, N5q, K5, q5, B5, P5⟩ := hQ5
        have N5 : Fr n0 L5 := by rw [l5]; exact Fr.app N3 N5q
        have Z6 : n0 ≤ T5.heap.size := Nat.le_trans Z0 K5.1
        obtain ⟨fs, hr, hrun, hended, hW, hsame⟩ := X5.leave (v := some (.ref b5)) (fun h => by rw [Bd.returns] at h; cases h) Bd.notSynchronized
        refine ⟨_, _, pre0 _ ?_, hrun, hended, _, _, rfl, ?_, ⟨_, rfl⟩, hW, hsame.mono (by decide) (by decide)⟩
        · refine pk4 _ ?_
          show Steps p.tables e below (T3.setTop (mkF m 86 #[.val (.long z), .second, .val (.long d), .second, .val (.int p1), .val (.int (4 : Int32)), .val (.int p2), .val (.int (-1 : Int32)), .val (.long (z / d)), .second, .val (.long (own_rm z d)), .second, .val (.int (own_ni (own_lc (own_abs ((2 : Int64) * (own_rm z d))) (own_abs d))))] [(.int (own_ni (own_lc (own_abs ((2 : Int64) * (own_rm z d))) (own_abs d))))])) _
          refine XS.ifNo X3.here hx rfl (hb hby d32_86) rfl ((if0 _ _).trans (feq (hq3 : ¬ ((own_ni (own_lc (own_abs ((2 : Int64) * (own_rm z d))) (own_abs d))) = (0 : Int32)))).1) ?_
          refine XS.lload X3.here hx rfl (hb hby d32_89) rfl ?_
          refine XS.iload X3.here hx rfl (hb hby d32_91) rfl ?_
          refine XS.i2l X3.here hx rfl (hb hby d32_93) rfl ?_
          refine XS.ladd X3.here hx rfl (hb hby d32_94) rfl ?_
          refine XS.goto X3.here hx rfl (pc0 := 95) (pc' := 100) rfl (hb hby d32_95) (by decide) (by decide) ?_
          show Steps p.tables e below (T3.setTop (mkF m 100 #[.val (.long z), .second, .val (.long d), .second, .val (.int p1), .val (.int (4 : Int32)), .val (.int p2), .val (.int (-1 : Int32)), .val (.long (z / d)), .second, .val (.long (own_rm z d)), .second, .val (.int (own_ni (own_lc (own_abs ((2 : Int64) * (own_rm z d))) (own_abs d))))] [(.long ((z / d) + ((-1 : Int32).toInt64)))])) _
          rw [← es]
          refine XS.iload X3.here hx rfl (hb hby d32_100) rfl ?_
          refine st5 _ ?_
          show Steps p.tables e below (T5.setTop (mkF m 105 #[.val (.long z), .second, .val (.long d), .second, .val (.int p1), .val (.int (4 : Int32)), .val (.int p2), .val (.int (own_qs z)), .val (.long (z / d)), .second, .val (.long (own_rm z d)), .second, .val (.int (own_ni (own_lc (own_abs ((2 : Int64) * (own_rm z d))) (own_abs d))))] [(.ref b5)])) _
          jvm_step X5.here [X5.here.top, hx, (hb hby d32_105), X5.method', Bd.returns, Value.isRef, FieldType.isReference]
          first | (intro acts; rw [hr _ acts rfl rfl rfl]) | rw [hr _ _ rfl rfl rfl]
          exact Steps.refl _
        · show QrmDar Z z d p1 p2  h0 n0 _ T5.heap _
          exact ⟨b5, rfl, N5, by rw [own_dv, if_neg hq2, if_neg (show ¬ (own_cm z d = (0 : Int32)) from hq3)]; exact ⟨K5, q5, B5, P5⟩⟩
  · have pk2 : ∀ target, Steps p.tables e below (s₁.setTop (mkF m 67 #[.val (.long z), .second, .val (.long d), .second, .val (.int p1), .val (.int (4 : Int32)), .val (.int p2), .val (.int (1 : Int32)), .val (.long (z / d)), .second, .val (.long (own_rm z d)), .second, .unset] [(.int (lcmpW (own_rm z d) (0 : Int64)))])) target → Steps p.tables e below (s₁.setTop (mkF m 0 #[.val (.long z), .second, .val (.long d), .second, .val (.int p1), .val (.int (4 : Int32)), .val (.int p2), .unset, .unset, .unset, .unset, .unset, .unset] [])) target := by
      intro target kt
      refine pk1 _ ?_
      show Steps p.tables e below (s₁.setTop (mkF m 34 #[.val (.long z), .second, .val (.long d), .second, .val (.int p1), .val (.int (4 : Int32)), .val (.int p2), .unset, .val (.long (z / d)), .second, .val (.long (own_rm z d)), .second, .unset] [(.int (lcmpW z (0 : Int64)))])) _
      refine XS.ifYes X0.here hx rfl (pc0 := 34) (pc' := 41) rfl (hb hby d32_34) rfl ((if0 _ _).trans (flt (hq1 : ¬ ((lcmpW z (0 : Int64)) < (0 : Int32)))).2.1) (by decide) (by decide) ?_
      refine XS.iconst X0.here hx rfl (hb hby d32_41) ?_
      refine XS.lloadN X0.here hx rfl (hb hby d32_42) rfl ?_
      refine XS.lconst X0.here hx rfl (hb hby d32_43) ?_
      refine XS.lcmp X0.here hx rfl (hb hby d32_44) rfl ?_
      refine XS.ifYes X0.here hx rfl (pc0 := 45) (pc' := 52) rfl (hb hby d32_45) rfl ((if0 _ _).trans (flt (hD.pos : ¬ ((lcmpW d (0 : Int64)) < (0 : Int32)))).2.1) (by decide) (by decide) ?_
      refine XS.iconst X0.here hx rfl (hb hby d32_52) ?_
      refine XS.icmpNo X0.here hx rfl (hb hby d32_53) rfl (teq (by decide : (0 : Int32) = (0 : Int32))).2 ?_
      refine XS.iconst X0.here hx rfl (hb hby d32_56) ?_
      refine XS.goto X0.here hx rfl (pc0 := 57) (pc' := 61) rfl (hb hby d32_57) (by decide) (by decide) ?_
      refine XS.istore X0.here hx rfl (hb hby d32_61) rfl (l' := #[.val (.long z), .second, .val (.long d), .second, .val (.int p1), .val (.int (4 : Int32)), .val (.int p2), .val (.int (1 : Int32)), .val (.long (z / d)), .second, .val (.long (own_rm z d)), .second, .unset]) rfl ?_
      refine XS.lload X0.here hx rfl (hb hby d32_63) rfl ?_
      refine XS.lconst X0.here hx rfl (hb hby d32_65) ?_
      refine XS.lcmp X0.here hx rfl (hb hby d32_66) rfl ?_
      exact kt
    by_cases hq2 : (lcmpW (own_rm z d) (0 : Int64)) = (0 : Int32)
    · obtain ⟨_, _, ⟨T3, L3, k3, n3⟩, -, X3, ⟨Lc3, hQ3, l3, y3, z3⟩, st3⟩ := Jvm.LawKit.callS X0 hx (y := m_0) hown (mvT hZ (own_w hw 110 rfl)) (mvT hZ (own_w hw 8 rfl)) (mvT hZ (own_w hw 9 rfl)) (mvT hZ (own_w hw 10 rfl)) (by decide) (backOf (W := 0) (rmV2 l Z a0 hw [] (z / d) p1  h0 n0 Z0 J O0 (own_hm (own_q1 hz hD).2.1) (own_16 hp1)) hZ (own_w hw 10 rfl) (own_w hw 9 rfl) (by decide) (by decide)) (g := (mkF m 128 #[.val (.long z), .second, .val (.long d), .second, .val (.int p1), .val (.int (4 : Int32)), .val (.int p2), .val (.int (1 : Int32)), .val (.long (z / d)), .second, .val (.long (own_rm z d)), .second, .unset] [(.int p1), (.long (z / d))])) rfl (by rw [hml]; rfl) (argsL := [(.long (z / d)), (.int p1)]) (rest := []) (lenOf pd_10 rfl) rfl (by show 2 * 0 + _ ≤ _; exact Nat.le_of_eq rfl) (hb hby d32_128) (fun _ _ => ⟨rfl, e0, (by decide : 0 + 1 ≤ _), (by decide : 0 + 5 ≤ _)⟩)
      dsimp only [Pt.U, Pt.locs, Pt.cells, Pt.slots] at X3 l3 y3 z3 st3 hQ3
      subst y3 z3
      obtain ⟨b3, rfl, N3q, K3, q3, B3, P3⟩ := hQ3
      have N3 : Fr n0 L3 := by rw [l3]; exact Fr.app N0 N3q
      have Z4 : n0 ≤ T3.heap.size := Nat.le_trans Z0 K3.1
      obtain ⟨fs, hr, hrun, hended, hW, hsame⟩ := X3.leave (v := some (.ref b3)) (fun h => by rw [Bd.returns] at h; cases h) Bd.notSynchronized
      refine ⟨_, _, pre0 _ ?_, hrun, hended, _, _, rfl, ?_, ⟨_, rfl⟩, hW, hsame.mono (by decide) (by decide)⟩
      · refine pk2 _ ?_
        show Steps p.tables e below (s₁.setTop (mkF m 67 #[.val (.long z), .second, .val (.long d), .second, .val (.int p1), .val (.int (4 : Int32)), .val (.int p2), .val (.int (1 : Int32)), .val (.long (z / d)), .second, .val (.long (own_rm z d)), .second, .unset] [(.int (lcmpW (own_rm z d) (0 : Int64)))])) _
        refine XS.ifYes X0.here hx rfl (pc0 := 67) (pc' := 106) rfl (hb hby d32_67) rfl ((if0 _ _).trans (teq (hq2 : (lcmpW (own_rm z d) (0 : Int64)) = (0 : Int32))).1) (by decide) (by decide) ?_
        refine XS.iload X0.here hx rfl (hb hby d32_106) rfl ?_
        refine XS.iload X0.here hx rfl (hb hby d32_108) rfl ?_
        refine XS.icmpYes X0.here hx rfl (pc0 := 110) (pc' := 124) rfl (hb hby d32_110) rfl (teq (hpp : p2 = p1)).1 (by decide) (by decide) ?_
        refine XS.lload X0.here hx rfl (hb hby d32_124) rfl ?_
        refine XS.iload X0.here hx rfl (hb hby d32_126) rfl ?_
        refine st3 _ ?_
        show Steps p.tables e below (T3.setTop (mkF m 131 #[.val (.long z), .second, .val (.long d), .second, .val (.int p1), .val (.int (4 : Int32)), .val (.int p2), .val (.int (1 : Int32)), .val (.long (z / d)), .second, .val (.long (own_rm z d)), .second, .unset] [(.ref b3)])) _
        jvm_step X3.here [X3.here.top, hx, (hb hby d32_131), X3.method', Bd.returns, Value.isRef, FieldType.isReference]
        first | (intro acts; rw [hr _ acts rfl rfl rfl]) | rw [hr _ _ rfl rfl rfl]
        exact Steps.refl _
      · show QrmDar Z z d p1 p2  h0 n0 _ T3.heap _
        exact ⟨b3, rfl, N3, by rw [own_dv, if_pos hq2]; exact ⟨K3, q3, B3, P3⟩⟩
    · obtain ⟨_, _, ⟨T3, L3, k3, n3⟩, -, X3, ⟨Lc3, hQ3, l3, y3, z3⟩, st3⟩ := Jvm.LawKit.callS X0 hx (y := m_20) hown (mvT hZ (own_w hw 179 rfl)) (mvT hZ (own_w hw 180 rfl)) (mvT hZ (own_w hw 9 rfl)) (mvT hZ (own_w hw 181 rfl)) (by decide) (backOf (W := 0) (rmNeed l Z a0 hw [] d (1 : Int32) (z / d) (own_rm z d)  h0 n0 Z0 J O0 (own_rb hD).1 (own_rb hD).2) hZ (own_w hw 181 rfl) (own_w hw 9 rfl) (by decide) (by decide)) (g := (mkF m 79 #[.val (.long z), .second, .val (.long d), .second, .val (.int p1), .val (.int (4 : Int32)), .val (.int p2), .val (.int (1 : Int32)), .val (.long (z / d)), .second, .val (.long (own_rm z d)), .second, .unset] [(.long (own_rm z d)), (.long (z / d)), (.int (1 : Int32)), (.int (4 : Int32)), (.long d)])) rfl (by rw [hml]; rfl) (argsL := [(.long d), (.int (4 : Int32)), (.int (1 : Int32)), (.long (z / d)), (.long (own_rm z d))]) (rest := []) (lenOf pd_14 rfl) rfl (by show 2 * 0 + _ ≤ _; exact Nat.le_of_eq rfl) (hb hby d32_79) (fun _ _ => ⟨rfl, e0, (by decide : 0 + 0 ≤ _), (by decide : 0 + 0 ≤ _)⟩)
      dsimp only [Pt.U, Pt.locs, Pt.cells, Pt.slots] at X3 l3 y3 z3 st3 hQ3
      subst y3 z3
      obtain ⟨rfl, N3q, e3⟩ := hQ3
      have N3 : Fr n0 L3 := by rw [l3]; exact Fr.app N0 N3q
      have pk4 : ∀ target, Steps p.tables e below (T3.setTop (mkF m 86 #[.val (.long z), .second, .val (.long d), .second, .val (.int p1), .val (.int (4 : Int32)), .val (.int p2), .val (.int (1 : Int32)), .val (.long (z / d)), .second, .val (.long (own_rm z d)), .second, .val (.int (own_ni (own_lc (own_abs ((2 : Int64) * (own_rm z d))) (own_abs d))))] [(.int (own_ni (own_lc (own_abs ((2 : Int64) * (own_rm z d))) (own_abs d))))])) target → Steps p.tables e below (s₁.setTop (mkF m 0 #[.val (.long z), .second, .val (.long d), .second, .val (.int p1), .val (.int (4 : Int32)), .val (.int p2), .unset, .unset, .unset, .unset, .unset, .unset] [])) target := by
        intro target kt
        refine pk2 _ ?_
        show Steps p.tables e below (s₁.setTop (mkF m 67 #[.val (.long z), .second, .val (.long d), .second, .val (.int p1), .val (.int (4 : Int32)), .val (.int p2), .val (.int (1 : Int32)), .val (.long (z / d)), .second, .val (.long (own_rm z d)), .second, .unset] [(.int (lcmpW (own_rm z d) (0 : Int64)))])) _
        refine XS.ifNo X0.here hx rfl (hb hby d32_67) rfl ((if0 _ _).trans (feq (hq2 : ¬ ((lcmpW (own_rm z d) (0 : Int64)) = (0 : Int32)))).1) ?_
        refine XS.lloadN X0.here hx rfl (hb hby d32_70) rfl ?_
        refine XS.iload X0.here hx rfl (hb hby d32_71) rfl ?_
        refine XS.iload X0.here hx rfl (hb hby d32_73) rfl ?_
        refine XS.lload X0.here hx rfl (hb hby d32_75) rfl ?_
        refine XS.lload X0.here hx rfl (hb hby d32_77) rfl ?_
        refine st3 _ ?_
        refine XS.istore X3.here hx rfl (hb hby d32_82) rfl (l' := #[.val (.long z), .second, .val (.long d), .second, .val (.int p1), .val (.int (4 : Int32)), .val (.int p2), .val (.int (1 : Int32)), .val (.long (z / d)), .second, .val (.long (own_rm z d)), .second, .val (.int (own_ni (own_lc (own_abs ((2 : Int64) * (own_rm z d))) (own_abs d))))]) rfl ?_
        refine XS.iload X3.here hx rfl (hb hby d32_84) rfl ?_
        exact kt
      by_cases hq3 : (own_ni (own_lc (own_abs ((2 : Int64) * (own_rm z d))) (own_abs d))) = (0 : Int32)
      · obtain ⟨_, _, ⟨T5, L5, k5, n5⟩, -, X5, ⟨Lc5, hQ5, l5, y5, z5⟩, st5⟩ := Jvm.LawKit.callS X3 hx (y := m_0) hown (mvT hZ (own_w hw 110 rfl)) (mvT hZ (own_w hw 8 rfl)) (mvT hZ (own_w hw 9 rfl)) (mvT hZ (own_w hw 10 rfl)) (by decide) (backOf (W := 0) (rmV2 l Z a0 hw [] (z / d) p1  h0 n0 Z0 J O0 (own_hm (own_q1 hz hD).2.1) (own_16 hp1)) hZ (own_w hw 10 rfl) (own_w hw 9 rfl) (by decide) (by decide)) (g := (mkF m 102 #[.val (.long z), .second, .val (.long d), .second, .val (.int p1), .val (.int (4 : Int32)), .val (.int p2), .val (.int (1 : Int32)), .val (.long (z / d)), .second, .val (.long (own_rm z d)), .second, .val (.int (own_ni (own_lc (own_abs ((2 : Int64) * (own_rm z d))) (own_abs d))))] [(.int p1), (.long (z / d))])) rfl (by rw [hml]; rfl) (argsL := [(.long (z / d)), (.int p1)]) (rest := []) (lenOf pd_10 rfl) rfl (by show 2 * 0 + _ ≤ _; exact Nat.le_of_eq rfl) (hb hby d32_102) (fun _ _ => ⟨rfl, e3, (by decide : 0 + 1 ≤ _), (by decide : 0 + 5 ≤ _)⟩)
        dsimp only [Pt.U, Pt.locs, Pt.cells, Pt.slots] at X5 l5 y5 z5 st5 hQ5
        subst y5 z5
        obtain ⟨b5, rfl, N5q, K5, q5, B5, P5⟩ := hQ5
        have N5 : Fr n0 L5 := by rw [l5]; exact Fr.app N3 N5q
        have Z6 : n0 ≤ T5.heap.size := Nat.le_trans Z0 K5.1
        obtain ⟨fs, hr, hrun, hended, hW, hsame⟩ := X5.leave (v := some (.ref b5)) (fun h => by rw [Bd.returns] at h; cases h) Bd.notSynchronized
        refine ⟨_, _, pre0 _ ?_, hrun, hended, _, _, rfl, ?_, ⟨_, rfl⟩, hW, hsame.mono (by decide) (by decide)⟩
        · refine pk4 _ ?_
          show Steps p.tables e below (T3.setTop (mkF m 86 #[.val (.long z), .second, .val (.long d), .second, .val (.int p1), .val (.int (4 : Int32)), .val (.int p2), .val (.int (1 : Int32)), .val (.long (z / d)), .second, .val (.long (own_rm z d)), .second, .val (.int (own_ni (own_lc (own_abs ((2 : Int64) * (own_rm z d))) (own_abs d))))] [(.int (own_ni (own_lc (own_abs ((2 : Int64) * (own_rm z d))) (own_abs d))))])) _
          refine XS.ifYes X3.here hx rfl (pc0 := 86) (pc' := 98) rfl (hb hby d32_86) rfl ((if0 _ _).trans (teq (hq3 : (own_ni (own_lc (own_abs ((2 : Int64) * (own_rm z d))) (own_abs d))) = (0 : Int32))).1) (by decide) (by decide) ?_
          refine XS.lload X3.here hx rfl (hb hby d32_98) rfl ?_
          refine XS.iload X3.here hx rfl (hb hby d32_100) rfl ?_
          refine st5 _ ?_
          show Steps p.tables e below (T5.setTop (mkF m 105 #[.val (.long z), .second, .val (.long d), .second, .val (.int p1), .val (.int (4 : Int32)), .val (.int p2), .val (.int (1 : Int32)), .val (.long (z / d)), .second, .val (.long (own_rm z d)), .second, .val (.int (own_ni (own_lc (own_abs ((2 : Int64) * (own_rm z d))) (own_abs d))))] [(.ref b5)])) _
          jvm_step X5.here [X5.here.top, hx, (hb hby d32_105), X5.method', Bd.returns, Value.isRef, FieldType.isReference]
          first | (intro acts; rw [hr _ acts rfl rfl rfl]) | rw [hr _ _ rfl rfl rfl]
          exact Steps.refl _
        · show QrmDar Z z d p1 p2  h0 n0 _ T5.heap _
          exact ⟨b5, rfl, N5, by rw [own_dv, if_neg hq2, if_pos (show own_cm z d = (0 : Int32) from hq3)]; exact ⟨K5, q5, B5, P5⟩⟩
      · have es : own_qs z = (1 : Int32) := by rw [own_qs, if_neg hq1]
        obtain ⟨_, _, ⟨T5, L5, k5, n5⟩, -, X5, ⟨Lc5, hQ5, l5, y5, z5⟩, st5⟩ := Jvm.LawKit.callS X3 hx (y := m_0) hown (mvT hZ (own_w hw 110 rfl)) (mvT hZ (own_w hw 8 rfl)) (mvT hZ (own_w hw 9 rfl)) (mvT hZ (own_w hw 10 rfl)) (by decide) (backOf (W := 0) (rmV2 l Z a0 hw [] ((z / d) + ((own_qs z).toInt64)) p1  h0 n0 Z0 J O0 (own_hm (own_q1 hz hD).2.2) (own_16 hp1)) hZ (own_w hw 10 rfl) (own_w hw 9 rfl) (by decide) (by decide)) (g := (mkF m 102 #[.val (.long z), .second, .val (.long d), .second, .val (.int p1), .val (.int (4 : Int32)), .val (.int p2), .val (.int (own_qs z)), .val (.long (z / d)), .second, .val (.long (own_rm z d)), .second, .val (.int (own_ni (own_lc (own_abs ((2 : Int64) * (own_rm z d))) (own_abs d))))] [(.int p1), (.long ((z / d) + ((own_qs z).toInt64)))])) rfl (by rw [hml]; rfl) (argsL := [(.long ((z / d) + ((own_qs z).toInt64))), (.int p1)]) (rest := []) (lenOf pd_10 rfl) rfl (by show 2 * 0 + _ ≤ _; exact Nat.le_of_eq rfl) (hb hby d32_102) (fun _ _ => ⟨rfl, e3, (by decide : 0 + 1 ≤ _), (by decide : 0 + 5 ≤ _)⟩)
        dsimp only [Pt.U, Pt.locs, Pt.cells, Pt.slots] at X5 l5 y5 z5 st5 hQ5
        subst y5 z5
        obtain ⟨b5, rfl, N5q, K5, q5, B5, P5⟩ := hQ5
        have N5 : Fr n0 L5 := by rw [l5]; exact Fr.app N3 N5q
        have Z6 : n0 ≤ T5.heap.size := Nat.le_trans Z0 K5.1
        obtain ⟨fs, hr, hrun, hended, hW, hsame⟩ := X5.leave (v := some (.ref b5)) (fun h => by rw [Bd.returns] at h; cases h) Bd.notSynchronized
        refine ⟨_, _, pre0 _ ?_, hrun, hended, _, _, rfl, ?_, ⟨_, rfl⟩, hW, hsame.mono (by decide) (by decide)⟩
        · refine pk4 _ ?_
          show Steps p.tables e below (T3.setTop (mkF m 86 #[.val (.long z), .second, .val (.long d), .second, .val (.int p1), .val (.int (4 : Int32)), .val (.int p2), .val (.int (1 : Int32)), .val (.long (z / d)), .second, .val (.long (own_rm z d)), .second, .val (.int (own_ni (own_lc (own_abs ((2 : Int64) * (own_rm z d))) (own_abs d))))] [(.int (own_ni (own_lc (own_abs ((2 : Int64) * (own_rm z d))) (own_abs d))))])) _
          refine XS.ifNo X3.here hx rfl (hb hby d32_86) rfl ((if0 _ _).trans (feq (hq3 : ¬ ((own_ni (own_lc (own_abs ((2 : Int64) * (own_rm z d))) (own_abs d))) = (0 : Int32)))).1) ?_
          refine XS.lload X3.here hx rfl (hb hby d32_89) rfl ?_
          refine XS.iload X3.here hx rfl (hb hby d32_91) rfl ?_
          refine XS.i2l X3.here hx rfl (hb hby d32_93) rfl ?_
          refine XS.ladd X3.here hx rfl (hb hby d32_94) rfl ?_
          refine XS.goto X3.here hx rfl (pc0 := 95) (pc' := 100) rfl (hb hby d32_95) (by decide) (by decide) ?_
          show Steps p.tables e below (T3.setTop (mkF m 100 #[.val (.long z), .second, .val (.long d), .second, .val (.int p1), .val (.int (4 : Int32)), .val (.int p2), .val (.int (1 : Int32)), .val (.long (z / d)), .second, .val (.long (own_rm z d)), .second, .val (.int (own_ni (own_lc (own_abs ((2 : Int64) * (own_rm z d))) (own_abs d))))] [(.long ((z / d) + ((1 : Int32).toInt64)))])) _
          rw [← es]
          refine XS.iload X3.here hx rfl (hb hby d32_100) rfl ?_
          refine st5 _ ?_
          show Steps p.tables e below (T5.setTop (mkF m 105 #[.val (.long z), .second, .val (.long d), .second, .val (.int p1), .val (.int (4 : Int32)), .val (.int p2), .val (.int (own_qs z)), .val (.long (z / d)), .second, .val (.long (own_rm z d)), .second, .val (.int (own_ni (own_lc (own_abs ((2 : Int64) * (own_rm z d))) (own_abs d))))] [(.ref b5)])) _
          jvm_step X5.here [X5.here.top, hx, (hb hby d32_105), X5.method', Bd.returns, Value.isRef, FieldType.isReference]
          first | (intro acts; rw [hr _ acts rfl rfl rfl]) | rw [hr _ _ rfl rfl rfl]
          exact Steps.refl _
        · show QrmDar Z z d p1 p2  h0 n0 _ T5.heap _
          exact ⟨b5, rfl, N5, by rw [own_dv, if_neg hq2, if_neg (show ¬ (own_cm z d = (0 : Int32)) from hq3)]; exact ⟨K5, q5, B5, P5⟩⟩
theorem own_sgv {x : Int64} (h : own_HB x) : (x.toInt < 0 → own_sg x = -1) ∧ (x.toInt = 0 → own_sg x = 0) ∧ (0 < x.toInt → own_sg x = 1) := by
  obtain ⟨h1, h2⟩ := h
  have a := c_lshr x 63 63 (by decide)
  have n := c_lneg x; have n1 := Int64.toInt_lt (-x); have n2 := Int64.le_toInt (-x)
  have b := c_lushr (-x) 63 63 (by decide) (by decide)
  have e : own_sg x = ((x >>> ((63 : Int32) &&& 0x3f).toInt64) ||| (((-x).toUInt64 >>> ((63 : Int32) &&& 0x3f).toInt64.toUInt64).toInt64)).toInt32 := rfl
  refine ⟨fun q => ?_, fun q => ?_, fun q => ?_⟩
  · have e1 : (x >>> ((63 : Int32) &&& 0x3f).toInt64) = -1 := Int64.toInt_inj.mp (by rw [a, show (-1 : Int64).toInt = -1 by decide]; omega)
    have e2 : (((-x).toUInt64 >>> ((63 : Int32) &&& 0x3f).toInt64.toUInt64).toInt64) = 0 := Int64.toInt_inj.mp (by rw [b, show (0 : Int64).toInt = 0 from rfl]; omega)
    rw [e, e1, e2]; decide
  · have e1 : (x >>> ((63 : Int32) &&& 0x3f).toInt64) = 0 := Int64.toInt_inj.mp (by rw [a, show (0 : Int64).toInt = 0 from rfl]; omega)
    have e2 : (((-x).toUInt64 >>> ((63 : Int32) &&& 0x3f).toInt64.toUInt64).toInt64) = 0 := Int64.toInt_inj.mp (by rw [b, show (0 : Int64).toInt = 0 from rfl]; omega)
    rw [e, e1, e2]; decide
  · have e1 : (x >>> ((63 : Int32) &&& 0x3f).toInt64) = 0 := Int64.toInt_inj.mp (by rw [a, show (0 : Int64).toInt = 0 from rfl]; omega)
    have e2 : (((-x).toUInt64 >>> ((63 : Int32) &&& 0x3f).toInt64.toUInt64).toInt64) = 1 := Int64.toInt_inj.mp (by rw [b, show (1 : Int64).toInt = 1 from rfl]; omega)
    rw [e, e1, e2]; decide
theorem own_sg0 {x : Int64} (h : own_HB x) : own_sg x = 0 ↔ x = 0 := by
  obtain ⟨a, b, c⟩ := own_sgv h
  have k0 : (0 : Int64).toInt = 0 := rfl
  constructor
  · intro q
    apply Int64.toInt_inj.mp
    rcases Int.lt_trichotomy x.toInt 0 with l | l | l
    · rw [a l] at q; exact absurd q (by decide)
    · omega
    · rw [c l] at q; exact absurd q (by decide)
  · intro q; exact b (by rw [q]; rfl)
theorem own_pD {k : Int32} (h0 : 1 ≤ k.toInt) (h1 : k.toInt ≤ 7) : own_D (own_pw k) := by
  unfold own_D
  rcases own_pwv (by omega) h1 with ⟨a, q⟩ | ⟨a, q⟩ | ⟨a, q⟩ | ⟨a, q⟩ | ⟨a, q⟩ | ⟨a, q⟩ | ⟨a, q⟩ | ⟨a, q⟩ <;> omega
theorem own_gap {s p : Int32} (hs : own_S8 s) (hp : own_S8 p) (hlt : p.toInt < s.toInt) : 1 ≤ (s - p).toInt ∧ (s - p).toInt ≤ 7 ∧ ¬ (p = s) ∧ ¬ (s < p) ∧ ¬ (s = p) := by
  have d := (own_dk hs hp).2.2.2; obtain ⟨hs1, hs2⟩ := hs; obtain ⟨hp1, hp2⟩ := hp
  refine ⟨by omega, by omega, fun e => by rw [e] at hlt; omega, fun z => by rw [Int32.lt_iff_toInt_lt] at z; omega, fun e => by rw [e] at hlt; omega⟩
theorem d28_0 : decode c_19 0 = .ok (.iload_n 2, 1) := by decide +kernel
theorem d28_1 : decode c_19 1 = .ok (.ifCond .lt 9, 3) := by decide +kernel
theorem d28_4 : decode c_19 4 = .ok (.iload_n 2, 1) := by decide +kernel
theorem d28_5 : decode c_19 5 = .ok (.bipush 7, 2) := by decide +kernel
theorem d28_7 : decode c_19 7 = .ok (.if_icmp .le 14, 3) := by decide +kernel
theorem d28_21 : decode c_19 21 = .ok (.aload_n 0, 1) := by decide +kernel
theorem d28_22 : decode c_19 22 = .ok (.getfield 17, 3) := by decide +kernel
theorem d28_25 : decode c_19 25 = .ok (.istore_n 3, 1) := by decide +kernel
theorem d28_26 : decode c_19 26 = .ok (.iload_n 1, 1) := by decide +kernel
theorem d28_27 : decode c_19 27 = .ok (.iload_n 3, 1) := by decide +kernel
theorem d28_28 : decode c_19 28 = .ok (.if_icmp .ne 5, 3) := by decide +kernel
theorem d28_33 : decode c_19 33 = .ok (.aload_n 0, 1) := by decide +kernel
theorem d28_34 : decode c_19 34 = .ok (.invokevirtual 270, 3) := by decide +kernel
theorem pd_15 : parseMethodDescriptor "()I" = some ⟨[], some .int⟩ := by decide +kernel
theorem d28_37 : decode c_19 37 = .ok (.ifCond .ne 8, 3) := by decide +kernel
theorem d28_40 : decode c_19 40 = .ok (.iload_n 1, 1) := by decide +kernel
theorem d28_41 : decode c_19 41 = .ok (.invokestatic 239, 3) := by decide +kernel
theorem d28_44 : decode c_19 44 = .ok (.areturn, 1) := by decide +kernel
theorem d28_45 : decode c_19 45 = .ok (.aload_n 0, 1) := by decide +kernel
theorem d28_46 : decode c_19 46 = .ok (.getfield 24, 3) := by decide +kernel
theorem d28_49 : decode c_19 49 = .ok (.ldc2_w 125, 3) := by decide +kernel
theorem d28_52 : decode c_19 52 = .ok (.lcmp, 1) := by decide +kernel
theorem d28_53 : decode c_19 53 = .ok (.ifCond .eq 140, 3) := by decide +kernel
theorem d28_56 : decode c_19 56 = .ok (.aload_n 0, 1) := by decide +kernel
theorem d28_57 : decode c_19 57 = .ok (.getfield 24, 3) := by decide +kernel
theorem d28_60 : decode c_19 60 = .ok (.lstore 4, 2) := by decide +kernel
theorem d28_62 : decode c_19 62 = .ok (.iload_n 1, 1) := by decide +kernel
theorem d28_63 : decode c_19 63 = .ok (.iload_n 3, 1) := by decide +kernel
theorem d28_64 : decode c_19 64 = .ok (.if_icmp .le 78, 3) := by decide +kernel
theorem d28_142 : decode c_19 142 = .ok (.aload_n 0, 1) := by decide +kernel
theorem d28_143 : decode c_19 143 = .ok (.iload_n 3, 1) := by decide +kernel
theorem d28_144 : decode c_19 144 = .ok (.i2l, 1) := by decide +kernel
theorem d28_145 : decode c_19 145 = .ok (.iload_n 1, 1) := by decide +kernel
theorem d28_146 : decode c_19 146 = .ok (.i2l, 1) := by decide +kernel
theorem d28_147 : decode c_19 147 = .ok (.lsub, 1) := by decide +kernel
theorem d28_148 : decode c_19 148 = .ok (.invokevirtual 325, 3) := by decide +kernel
theorem d28_151 : decode c_19 151 = .ok (.istore 6, 2) := by decide +kernel
theorem d28_153 : decode c_19 153 = .ok (.iload 6, 2) := by decide +kernel
theorem d28_155 : decode c_19 155 = .ok (.getstatic 95, 3) := by decide +kernel
theorem d28_158 : decode c_19 158 = .ok (.arraylength, 1) := by decide +kernel
theorem d28_159 : decode c_19 159 = .ok (.if_icmp .ge 18, 3) := by decide +kernel
theorem d28_162 : decode c_19 162 = .ok (.lload 4, 2) := by decide +kernel
theorem d28_164 : decode c_19 164 = .ok (.getstatic 95, 3) := by decide +kernel
theorem d28_167 : decode c_19 167 = .ok (.iload 6, 2) := by decide +kernel
theorem d28_169 : decode c_19 169 = .ok (.laload, 1) := by decide +kernel
theorem d28_170 : decode c_19 170 = .ok (.iload_n 1, 1) := by decide +kernel
theorem d28_171 : decode c_19 171 = .ok (.iload_n 2, 1) := by decide +kernel
theorem d28_172 : decode c_19 172 = .ok (.iload_n 1, 1) := by decide +kernel
theorem d28_173 : decode c_19 173 = .ok (.invokestatic 606, 3) := by decide +kernel
theorem pd_16 : parseMethodDescriptor "(JJIII)Ljava/math/BigDecimal;" = some ⟨[.long, .long, .int, .int, .int], some (.object "java/math/BigDecimal")⟩ := by decide +kernel
theorem d28_176 : decode c_19 176 = .ok (.areturn, 1) := by decide +kernel
theorem ef_rmSs (m : MethodId) (x0 : Addr) (x1 : Int32) (x2 : Int32) : entryFrame m #[(.ref x0), (.int x1), (.int x2)] 8 = mkF m 0 #[.val (.ref x0), .val (.int x1), .val (.int x2), .unset, .unset, .unset, .unset, .unset] [] := by first | (simp [entryFrame, mkF, argsToLocals, Value.category]; done) | rfl
def QrmSs (Z : State) (a1 : Addr) (p1 : Int32) (sc : Int32) (z : Int64) (h0 : Heap) (n0 : Nat) (v : Option Value) (h : Heap) (L : List Loc) : Prop := ∃ b, v = some (.ref b) ∧ Fr n0 L ∧ own_QB Z h0 h n0 b p1 (own_dv z (own_pw (sc - p1)))
theorem rmSs (l : Launch) (Z : State) (a0 : Array Value) (hw : ∀ d ∈ tables_1, d.before a0 Z = true) (ws : List Jvm.Cond) (a1 : Addr) (p1 : Int32) (sc : Int32) (z : Int64) (h0 : Heap) (n0 : Nat) (Z0 : n0 ≤ h0.size) (J : own_J Z) (O0 : Old Z n0 h0) (B : own_BD Z h0 a1 sc z) (hz : own_HB z) (hs : own_S8 sc) (hp : own_S8 p1) (hlt : p1.toInt < sc.toInt) :
    MetFree l m_27 (head1 (Jvm.Cond.code m_27 jdk_17_method_64_code 8 (some (.object "java/math/BigDecimal")) :: ws) ({ frames := 6, cells := 1, slots := 5, locals := 93 } : Room)) (fun a U => a = #[(.ref a1), (.int p1), (.int (4 : Int32))] ∧ Z.Warmed39 U.vm ∧ U.heap = h0) (fun _ _ _ _ _ => True) (fun _ U o U' => ∃ v L, o = .returned v ∧ QrmSs Z a1 p1 sc z h0 n0 v U'.heap L ∧ FrameEnd U o U' L ({ frames := 6, cells := 1, slots := 5, locals := 93 } : Room).cells ({ frames := 6, cells := 1, slots := 5, locals := 93 } : Room).slots) := by
  refine MetFree.of_bodySF (plainFor_of_name pn_java_math_BigDecimal) hisR ?_
  intro p e s m args below meth c s₁ Bd hml0 hP hK
  obtain ⟨rfl, hZ, hh⟩ := hP
  have hx := Bd.exec
  have hby := Bd.bytes
  have hml : c.maxLocals = 8 := hml0
  have hown : s.vm.findClass "java/math/BigDecimal" = some m.cls := findClass_of_methodNamed Bd.named
  have hnm := (name_of_methodNamed Bd.named Bd.method).1
  have X0 : Stand p l e ({ frames := 6, cells := 1, slots := 5, locals := 93 } : Room) s m #[(.ref a1), (.int p1), (.int (4 : Int32))] below meth c s₁ [] 0 0 := Stand.of_body Bd
  have e0 : s₁.heap = h0 := by rw [← hh, Bd.state]; rfl
  have N0 := Fr.nil n0
  have pre0 : ∀ t, Steps p.tables e below (s₁.setTop (mkF m 0 #[.val (.ref a1), .val (.int p1), .val (.int (4 : Int32)), .unset, .unset, .unset, .unset, .unset] [])) t → Steps p.tables e below (s₁.setTop (entryFrame m #[(.ref a1), (.int p1), (.int (4 : Int32))] 8)) t := fun t k => castTop (ef_rmSs m a1 p1 (4 : Int32)) k
  obtain ⟨aT, cT, sT, AT, zT, HT⟩ := J.ten
  obtain ⟨gp1, gp2, gp3, gp4, gp5⟩ := own_gap hs hp hlt
  have hD := own_pD gp1 gp2
  obtain ⟨T1, X1, e1, st1⟩ := getF X0 hx hZ hown (host := "") (Or.inl (own_w hw 31 rfl)) Via.refl e0 B.2.1 (g := (mkF m 22 #[.val (.ref a1), .val (.int p1), .val (.int (4 : Int32)), .unset, .unset, .unset, .unset, .unset] [(.ref a1)])) rfl rfl (hb hby d28_22)
  obtain ⟨cq2, kq2, q2a, q2b, q2c⟩ := isOf hZ e1 B.1
  obtain ⟨_, _, ⟨T2, L2, k2, n2⟩, -, X2, ⟨Lc2, hQ2, l2, y2, z2⟩, st2⟩ := X1.virtualBack hx (y := m_5) (z := m_5) hown (mvT hZ (own_w hw 162 rfl)) (mvT hZ (own_w hw 163 rfl)) (notFace_of_selects (args := #[]) (mvT hZ (own_w hw 165 rfl))) (mvT hZ (own_w hw 165 rfl)) (mvT hZ (own_w hw 164 rfl)) (by decide) (backOf (W := 0) (rmSig l Z a0 hw [] a1 sc z h0 n0 Z0 B (own_hm hz)) hZ (own_w hw 166 rfl) (own_w hw 9 rfl) (by decide) (by decide)) q2a q2c (g := (mkF m 34 #[.val (.ref a1), .val (.int p1), .val (.int (4 : Int32)), .val (.int sc), .unset, .unset, .unset, .unset] [(.ref a1)])) rfl (by rw [hml]; rfl) (Steps.refl _) (argsL := []) (rest := []) (lenOf pd_15 rfl) rfl (by show 2 * 0 + _ ≤ _; exact Nat.le_of_eq rfl) (hb hby d28_34) (fun _ _ => ⟨rfl, e1, (by decide : 0 + 0 ≤ _), (by decide : 0 + 0 ≤ _)⟩)
  dsimp only [Pt.U, Pt.locs, Pt.cells, Pt.slots] at X2 l2 y2 z2 st2 hQ2
  subst y2 z2
  obtain ⟨rfl, N2q, e2⟩ := hQ2
  have N2 : Fr n0 L2 := by rw [l2]; exact Fr.app N0 N2q
  have pk3 : ∀ target, Steps p.tables e below (T2.setTop (mkF m 37 #[.val (.ref a1), .val (.int p1), .val (.int (4 : Int32)), .val (.int sc), .unset, .unset, .unset, .unset] [(.int (own_sg z))])) target → Steps p.tables e below (s₁.setTop (mkF m 0 #[.val (.ref a1), .val (.int p1), .val (.int (4 : Int32)), .unset, .unset, .unset, .unset, .unset] [])) target := by
    intro target kt
    show Steps p.tables e below (s₁.setTop (mkF m 0 #[.val (.ref a1), .val (.int p1), .val (.int (4 : Int32)), .unset, .unset, .unset, .unset, .unset] [])) _
    refine XS.iloadN X0.here hx rfl (hb hby d28_0) rfl ?_
    refine XS.ifNo X0.here hx rfl (hb hby d28_1) rfl ((if0 _ _).trans (flt (by decide : ¬ ((4 : Int32) < (0 : Int32)))).1) ?_
    refine XS.iloadN X0.here hx rfl (hb hby d28_4) rfl ?_
    refine XS.bipush X0.here hx rfl (hb hby d28_5) ?_
    refine XS.icmpYes X0.here hx rfl (pc0 := 7) (pc' := 21) rfl (hb hby d28_7) rfl (flt (by decide : ¬ ((7 : Int32) < (4 : Int32)))).2.2.2 (by decide) (by decide) ?_
    refine XS.aloadN X0.here hx rfl (hb hby d28_21) rfl rfl ?_
    refine st1 _ ?_
    refine XS.istoreN X1.here hx rfl (hb hby d28_25) rfl (l' := #[.val (.ref a1), .val (.int p1), .val (.int (4 : Int32)), .val (.int sc), .unset, .unset, .unset, .unset]) rfl ?_
    refine XS.iloadN X1.here hx rfl (hb hby d28_26) rfl ?_
    refine XS.iloadN X1.here hx rfl (hb hby d28_27) rfl ?_
    refine XS.icmpYes X1.here hx rfl (pc0 := 28) (pc' := 33) rfl (hb hby d28_28) rfl (feq (gp3 : ¬ (p1 = sc))).2 (by decide) (by decide) ?_
    refine XS.aloadN X1.here hx rfl (hb hby d28_33) rfl rfl ?_
    refine st2.trans ?_
    exact kt
  by_cases hq1 : (own_sg z) = (0 : Int32)
  · obtain ⟨_, _, ⟨T4, L4, k4, n4⟩, -, X4, ⟨Lc4, hQ4, l4, y4, z4⟩, st4⟩ := Jvm.LawKit.callS X2 hx (y := m_26) hown (mvT hZ (own_w hw 224 rfl)) (mvT hZ (own_w hw 225 rfl)) (mvT hZ (own_w hw 9 rfl)) (mvT hZ (own_w hw 226 rfl)) (by decide) (backOf (W := 0) (rmZv l Z a0 hw [] p1  h0 n0 Z0 J O0 (own_16 hp)) hZ (own_w hw 226 rfl) (own_w hw 9 rfl) (by decide) (by decide)) (g := (mkF m 41 #[.val (.ref a1), .val (.int p1), .val (.int (4 : Int32)), .val (.int sc), .unset, .unset, .unset, .unset] [(.int p1)])) rfl (by rw [hml]; rfl) (argsL := [(.int p1)]) (rest := []) (lenOf pd_8 rfl) rfl (by show 2 * 0 + _ ≤ _; exact Nat.le_of_eq rfl) (hb hby d28_41) (fun _ _ => ⟨rfl, e2, (by decide : 0 + 1 ≤ _), (by decide : 0 + 5 ≤ _)⟩)
    dsimp only [Pt.U, Pt.locs, Pt.cells, Pt.slots] at X4 l4 y4 z4 st4 hQ4
    subst y4 z4
    obtain ⟨b4, rfl, N4q, K4, q4, B4, P4⟩ := hQ4
    have N4 : Fr n0 L4 := by rw [l4]; exact Fr.app N2 N4q
    have Z5 : n0 ≤ T4.heap.size := Nat.le_trans Z0 K4.1
    obtain ⟨fs, hr, hrun, hended, hW, hsame⟩ := X4.leave (v := some (.ref b4)) (fun h => by rw [Bd.returns] at h; cases h) Bd.notSynchronized
    refine ⟨_, _, pre0 _ ?_, hrun, hended, _, _, rfl, ?_, ⟨_, rfl⟩, hW, hsame.mono (by decide) (by decide)⟩
    · refine pk3 _ ?_
      show Steps p.tables e below (T2.setTop (mkF m 37 #[.val (.ref a1), .val (.int p1), .val (.int (4 : Int32)), .val (.int sc), .unset, .unset, .unset, .unset] [(.int (own_sg z))])) _
      refine XS.ifNo X2.here hx rfl (hb hby d28_37) rfl ((if0 _ _).trans (teq (hq1 : (own_sg z) = (0 : Int32))).2) ?_
      refine XS.iloadN X2.here hx rfl (hb hby d28_40) rfl ?_
      refine st4 _ ?_
      show Steps p.tables e below (T4.setTop (mkF m 44 #[.val (.ref a1), .val (.int p1), .val (.int (4 : Int32)), .val (.int sc), .unset, .unset, .unset, .unset] [(.ref b4)])) _
      jvm_step X4.here [X4.here.top, hx, (hb hby d28_44), X4.method', Bd.returns, Value.isRef, FieldType.isReference]
      first | (intro acts; rw [hr _ acts rfl rfl rfl]) | rw [hr _ _ rfl rfl rfl]
      exact Steps.refl _
    · show QrmSs Z a1 p1 sc z h0 n0 _ T4.heap _
      exact ⟨b4, rfl, N4, by rw [(own_sg0 hz).mp hq1, own_dv0 hD]; exact ⟨K4, q4, B4, P4⟩⟩
  · obtain ⟨T4, X4, e4, st4⟩ := getF X2 hx hZ hown (host := "") (Or.inl (own_w hw 35 rfl)) Via.refl e2 B.2.2 (g := (mkF m 46 #[.val (.ref a1), .val (.int p1), .val (.int (4 : Int32)), .val (.int sc), .unset, .unset, .unset, .unset] [(.ref a1)])) rfl rfl (hb hby d28_46)
    obtain ⟨T5, X5, e5, st5⟩ := getF X4 hx hZ hown (host := "") (Or.inl (own_w hw 35 rfl)) Via.refl e4 B.2.2 (g := (mkF m 57 #[.val (.ref a1), .val (.int p1), .val (.int (4 : Int32)), .val (.int sc), .unset, .unset, .unset, .unset] [(.ref a1)])) rfl rfl (hb hby d28_57)
    obtain ⟨cq6, q6a, q6b⟩ := B.1.cell
    obtain ⟨_, _, ⟨T6, L6, k6, n6⟩, -, X6, ⟨Lc6, hQ6, l6, y6, z6⟩, st6⟩ := X5.privateBack hx (y := m_33) hown (mvT hZ (own_w hw 171 rfl)) (mvT hZ (own_w hw 172 rfl)) (mvT hZ (own_w hw 174 rfl)) (Cond.privateMethod_at (mvP hZ (own_w hw 173 rfl) (args := #[]))) (mvT hZ (own_w hw 175 rfl)) (by decide) (backOf (W := 0) (rmCsV l Z a0 hw [] a1 ((sc.toInt64) - (p1.toInt64))  h0 n0 Z0 (own_dk hs hp).2.1) hZ (own_w hw 175 rfl) (own_w hw 9 rfl) (by decide) (by decide)) (g := (mkF m 148 #[.val (.ref a1), .val (.int p1), .val (.int (4 : Int32)), .val (.int sc), .val (.long z), .second, .unset, .unset] [(.long ((sc.toInt64) - (p1.toInt64))), (.ref a1)])) rfl (by rw [hml]; rfl) (Steps.refl _) (a := a1) (by rw [e5]; exact q6a) q6b (argsL := [(.long ((sc.toInt64) - (p1.toInt64)))]) (rest := []) (lenOf pd_4 rfl) rfl (by show 2 * 0 + _ ≤ _; exact Nat.le_of_eq rfl) (hb hby d28_148) (fun _ _ => ⟨rfl, e5, (by decide : 0 + 0 ≤ _), (by decide : 0 + 0 ≤ _)⟩)
    dsimp only [Pt.U, Pt.locs, Pt.cells, Pt.slots] at X6 l6 y6 z6 st6 hQ6
    subst y6 z6
    obtain ⟨rfl, N6q, e6⟩ := hQ6
    have N6 : Fr n0 L6 := by rw [l6]; exact Fr.app N2 N6q
    have f7 := sT.ext O0.2
    obtain ⟨T8, X8, e8, st8⟩ := getS2 X6 hx hZ hown (host := "") (Or.inl (own_w hw 98 rfl)) Via.refl e6 f7 (g := (mkF m 155 #[.val (.ref a1), .val (.int p1), .val (.int (4 : Int32)), .val (.int sc), .val (.long z), .second, .val (.int (sc - p1)), .unset] [(.int (sc - p1))])) rfl (hb hby d28_155)
    have f9 := AT.ext O0.2
    obtain ⟨T10, X10, e10, st10⟩ := getS2 X8 hx hZ hown (host := "") (Or.inl (own_w hw 98 rfl)) Via.refl e8 f7 (g := (mkF m 164 #[.val (.ref a1), .val (.int p1), .val (.int (4 : Int32)), .val (.int sc), .val (.long z), .second, .val (.int (sc - p1)), .unset] [(.long z)])) rfl (hb hby d28_164)
    have f11 := AT.ext O0.2
    obtain ⟨_, _, ⟨T12, L12, k12, n12⟩, -, X12, ⟨Lc12, hQ12, l12, y12, z12⟩, st12⟩ := Jvm.LawKit.callS X10 hx (y := m_38) hown (mvT hZ (own_w hw 176 rfl)) (mvT hZ (own_w hw 177 rfl)) (mvT hZ (own_w hw 9 rfl)) (mvT hZ (own_w hw 178 rfl)) (by decide) (backOf (W := 0) (rmDar l Z a0 hw [] z (own_pw (sc - p1)) p1 p1  h0 n0 Z0 J O0 hD hz rfl hp) hZ (own_w hw 178 rfl) (own_w hw 9 rfl) (by decide) (by decide)) (g := (mkF m 173 #[.val (.ref a1), .val (.int p1), .val (.int (4 : Int32)), .val (.int sc), .val (.long z), .second, .val (.int (sc - p1)), .unset] [(.int p1), (.int (4 : Int32)), (.int p1), (.long (own_pw (sc - p1))), (.long z)])) rfl (by rw [hml]; rfl) (argsL := [(.long z), (.long (own_pw (sc - p1))), (.int p1), (.int (4 : Int32)), (.int p1)]) (rest := []) (lenOf pd_16 rfl) rfl (by show 2 * 0 + _ ≤ _; exact Nat.le_of_eq rfl) (hb hby d28_173) (fun _ _ => ⟨rfl, e10, (by decide : 0 + 1 ≤ _), (by decide : 0 + 5 ≤ _)⟩)
    dsimp only [Pt.U, Pt.locs, Pt.cells, Pt.slots] at X12 l12 y12 z12 st12 hQ12
    subst y12 z12
    obtain ⟨b12, rfl, N12q, K12, q12, B12, P12⟩ := hQ12
    have N12 : Fr n0 L12 := by rw [l12]; exact Fr.app N6 N12q
    have Z13 : n0 ≤ T12.heap.size := Nat.le_trans Z0 K12.1
    obtain ⟨fs, hr, hrun, hended, hW, hsame⟩ := X12.leave (v := some (.ref b12)) (fun h => by rw [Bd.returns] at h; cases h) Bd.notSynchronized
    refine ⟨_, _, pre0 _ ?_, hrun, hended, _, _, rfl, ?_, ⟨_, rfl⟩, hW, hsame.mono (by decide) (by decide)⟩
    · refine pk3 _ ?_
      show Steps p.tables e below (T2.setTop (mkF m 37 #[.val (.ref a1), .val (.int p1), .val (.int (4 : Int32)), .val (.int sc), .unset, .unset, .unset, .unset] [(.int (own_sg z))])) _
      refine XS.ifYes X2.here hx rfl (pc0 := 37) (pc' := 45) rfl (hb hby d28_37) rfl ((if0 _ _).trans (feq (hq1 : ¬ ((own_sg z) = (0 : Int32)))).2) (by decide) (by decide) ?_
      refine XS.aloadN X2.here hx rfl (hb hby d28_45) rfl rfl ?_
      refine st4 _ ?_
      refine X4.ldc2Long hx hown (mvT hZ (own_w hw 17 rfl)) (g := (mkF m 49 #[.val (.ref a1), .val (.int p1), .val (.int (4 : Int32)), .val (.int sc), .unset, .unset, .unset, .unset] [(.long z)])) rfl (hb hby d28_49) _ ?_
      refine XS.lcmp X4.here hx rfl (hb hby d28_52) rfl ?_
      refine XS.ifNo X4.here hx rfl (hb hby d28_53) rfl ((if0 _ _).trans (feq (own_hm hz : ¬ ((lcmpW z (-9223372036854775808 : Int64)) = (0 : Int32)))).1) ?_
      refine XS.aloadN X4.here hx rfl (hb hby d28_56) rfl rfl ?_
      refine st5 _ ?_
      refine XS.lstore X5.here hx rfl (hb hby d28_60) rfl (l' := #[.val (.ref a1), .val (.int p1), .val (.int (4 : Int32)), .val (.int sc), .val (.long z), .second, .unset, .unset]) rfl ?_
      refine XS.iloadN X5.here hx rfl (hb hby d28_62) rfl ?_
      refine XS.iloadN X5.here hx rfl (hb hby d28_63) rfl ?_
      refine XS.icmpYes X5.here hx rfl (pc0 := 64) (pc' := 142) rfl (hb hby d28_64) rfl (flt (gp4 : ¬ (sc < p1))).2.2.2 (by decide) (by decide) ?_
      refine XS.aloadN X5.here hx rfl (hb hby d28_142) rfl rfl ?_
      refine XS.iloadN X5.here hx rfl (hb hby d28_143) rfl ?_
      refine XS.i2l X5.here hx rfl (hb hby d28_144) rfl ?_
      refine XS.iloadN X5.here hx rfl (hb hby d28_145) rfl ?_
      refine XS.i2l X5.here hx rfl (hb hby d28_146) rfl ?_
      refine XS.lsub X5.here hx rfl (hb hby d28_147) rfl ?_
      refine st6.trans ?_
      show Steps p.tables e below (T6.setTop (mkF m 151 #[.val (.ref a1), .val (.int p1), .val (.int (4 : Int32)), .val (.int sc), .val (.long z), .second, .unset, .unset] [(.int (((sc.toInt64) - (p1.toInt64)).toInt32))])) _
      rw [(own_dk hs hp).1]
      refine XS.istore X6.here hx rfl (hb hby d28_151) rfl (l' := #[.val (.ref a1), .val (.int p1), .val (.int (4 : Int32)), .val (.int sc), .val (.long z), .second, .val (.int (sc - p1)), .unset]) rfl ?_
      refine XS.iload X6.here hx rfl (hb hby d28_153) rfl ?_
      refine st8 _ ?_
      refine X8.arraylength hx (cell := cT) (by rw [e8]; exact f9.1) (State.isArrayOf_alike hZ.alike f9.2.1) (g := (mkF m 158 #[.val (.ref a1), .val (.int p1), .val (.int (4 : Int32)), .val (.int sc), .val (.long z), .second, .val (.int (sc - p1)), .unset] [(.ref aT), (.int (sc - p1))])) rfl (rest := [(.int (sc - p1))]) rfl (hb hby d28_158) _ ?_
      rw [len_of (zT.trans (by decide) : _ = (19 : Int32).toNatClampNeg) (by decide : ¬ (19 : Int32) < 0)]
      refine XS.icmpNo X8.here hx rfl (hb hby d28_159) rfl (tlt (own_lt19 (by omega) : (sc - p1) < (19 : Int32))).2.1 ?_
      refine XS.lload X8.here hx rfl (hb hby d28_162) rfl ?_
      refine st10 _ ?_
      refine XS.iload X10.here hx rfl (hb hby d28_167) rfl ?_
      refine X10.laload hx (j := (sc - p1)) (v := (.long (own_pw (sc - p1)))) (by rw [e10]; exact f11.1) (State.isArrayOf_alike hZ.alike f11.2.1) f11.2.2 (own_in zT (show 0 ≤ (sc - p1).toInt by omega) (show (sc - p1).toInt < (19 : Nat) by omega)) (HT _ (own_cl (show 0 ≤ (sc - p1).toInt by omega) (show (sc - p1).toInt < (19 : Nat) by omega))) (g := (mkF m 169 #[.val (.ref a1), .val (.int p1), .val (.int (4 : Int32)), .val (.int sc), .val (.long z), .second, .val (.int (sc - p1)), .unset] [(.int (sc - p1)), (.ref aT), (.long z)])) rfl rfl (hb hby d28_169) _ ?_
      refine XS.iloadN X10.here hx rfl (hb hby d28_170) rfl ?_
      refine XS.iloadN X10.here hx rfl (hb hby d28_171) rfl ?_
      refine XS.iloadN X10.here hx rfl (hb hby d28_172) rfl ?_
      refine st12 _ ?_
      show Steps p.tables e below (T12.setTop (mkF m 176 #[.val (.ref a1), .val (.int p1), .val (.int (4 : Int32)), .val (.int sc), .val (.long z), .second, .val (.int (sc - p1)), .unset] [(.ref b12)])) _
      jvm_step X12.here [X12.here.top, hx, (hb hby d28_176), X12.method', Bd.returns, Value.isRef, FieldType.isReference]
      first | (intro acts; rw [hr _ acts rfl rfl rfl]) | rw [hr _ _ rfl rfl rfl]
      exact Steps.refl _
    · show QrmSs Z a1 p1 sc z h0 n0 _ T12.heap _
      exact ⟨b12, rfl, N12, by exact ⟨K12, q12, B12, P12⟩⟩
theorem d27_0 : decode c_18 0 = .ok (.aload_n 0, 1) := by decide +kernel
theorem d27_1 : decode c_18 1 = .ok (.iload_n 1, 1) := by decide +kernel
theorem d27_2 : decode c_18 2 = .ok (.aload_n 2, 1) := by decide +kernel
theorem d27_3 : decode c_18 3 = .ok (.getfield 103, 3) := by decide +kernel
theorem d27_6 : decode c_18 6 = .ok (.invokevirtual 419, 3) := by decide +kernel
theorem pd_17 : parseMethodDescriptor "(II)Ljava/math/BigDecimal;" = some ⟨[.int, .int], some (.object "java/math/BigDecimal")⟩ := by decide +kernel
theorem d27_9 : decode c_18 9 = .ok (.areturn, 1) := by decide +kernel
theorem ef_rmSsR (m : MethodId) (x0 : Addr) (x1 : Int32) (x2 : Addr) : entryFrame m #[(.ref x0), (.int x1), (.ref x2)] 3 = mkF m 0 #[.val (.ref x0), .val (.int x1), .val (.ref x2)] [] := by first | (simp [entryFrame, mkF, argsToLocals, Value.category]; done) | rfl
def QrmSsR (Z : State) (a1 : Addr) (p1 : Int32) (a3 : Addr) (sc : Int32) (z : Int64) (h0 : Heap) (n0 : Nat) (v : Option Value) (h : Heap) (L : List Loc) : Prop := ∃ b, v = some (.ref b) ∧ Fr n0 L ∧ own_QB Z h0 h n0 b p1 (own_dv z (own_pw (sc - p1)))
theorem rmSsR (l : Launch) (Z : State) (a0 : Array Value) (hw : ∀ d ∈ tables_1, d.before a0 Z = true) (ws : List Jvm.Cond) (a1 : Addr) (p1 : Int32) (a3 : Addr) (sc : Int32) (z : Int64) (h0 : Heap) (n0 : Nat) (Z0 : n0 ≤ h0.size) (J : own_J Z) (O0 : Old Z n0 h0) (B : own_BD Z h0 a1 sc z) (hz : own_HB z) (hs : own_S8 sc) (hp : own_S8 p1) (hlt : p1.toInt < sc.toInt) (F3 : Fld Z h0 a3 "java/math/RoundingMode" "oldMode" "I" (.int (4 : Int32))) :
    MetFree l m_28 (head1 (Jvm.Cond.code m_28 jdk_17_method_63_code 3 (some (.object "java/math/BigDecimal")) :: ws) ({ frames := 7, cells := 1, slots := 5, locals := 112 } : Room)) (fun a U => a = #[(.ref a1), (.int p1), (.ref a3)] ∧ Z.Warmed39 U.vm ∧ U.heap = h0) (fun _ _ _ _ _ => True) (fun _ U o U' => ∃ v L, o = .returned v ∧ QrmSsR Z a1 p1 a3 sc z h0 n0 v U'.heap L ∧ FrameEnd U o U' L ({ frames := 7, cells := 1, slots := 5, locals := 112 } : Room).cells ({ frames := 7, cells := 1, slots := 5, locals := 112 } : Room).slots) := by
  refine MetFree.of_bodySF (plainFor_of_name pn_java_math_BigDecimal) hisR ?_
  intro p e s m args below meth c s₁ Bd hml0 hP hK
  obtain ⟨rfl, hZ, hh⟩ := hP
  have hx := Bd.exec
  have hby := Bd.bytes
  have hml : c.maxLocals = 3 := hml0
  have hown : s.vm.findClass "java/math/BigDecimal" = some m.cls := findClass_of_methodNamed Bd.named
  have hnm := (name_of_methodNamed Bd.named Bd.method).1
  have X0 : Stand p l e ({ frames := 7, cells := 1, slots := 5, locals := 112 } : Room) s m #[(.ref a1), (.int p1), (.ref a3)] below meth c s₁ [] 0 0 := Stand.of_body Bd
  have e0 : s₁.heap = h0 := by rw [← hh, Bd.state]; rfl
  have N0 := Fr.nil n0
  have pre0 : ∀ t, Steps p.tables e below (s₁.setTop (mkF m 0 #[.val (.ref a1), .val (.int p1), .val (.ref a3)] [])) t → Steps p.tables e below (s₁.setTop (entryFrame m #[(.ref a1), (.int p1), (.ref a3)] 3)) t := fun t k => castTop (ef_rmSsR m a1 p1 a3) k
  obtain ⟨T1, X1, e1, st1⟩ := getF X0 hx hZ hown (host := "") (Or.inl (own_w hw 155 rfl)) Via.refl e0 F3 (g := (mkF m 3 #[.val (.ref a1), .val (.int p1), .val (.ref a3)] [(.ref a3), (.int p1), (.ref a1)])) rfl rfl (hb hby d27_3)
  obtain ⟨cq2, kq2, q2a, q2b, q2c⟩ := isOf hZ e1 B.1
  obtain ⟨_, _, ⟨T2, L2, k2, n2⟩, -, X2, ⟨Lc2, hQ2, l2, y2, z2⟩, st2⟩ := X1.virtualBack hx (y := m_27) (z := m_27) hown (mvT hZ (own_w hw 157 rfl)) (mvT hZ (own_w hw 158 rfl)) (notFace_of_selects (args := #[]) (mvT hZ (own_w hw 160 rfl))) (mvT hZ (own_w hw 160 rfl)) (mvT hZ (own_w hw 159 rfl)) (by decide) (backOf (W := 0) (rmSs l Z a0 hw [] a1 p1 sc z h0 n0 Z0 J O0 B hz hs hp hlt) hZ (own_w hw 161 rfl) (own_w hw 9 rfl) (by decide) (by decide)) q2a q2c (g := (mkF m 6 #[.val (.ref a1), .val (.int p1), .val (.ref a3)] [(.int (4 : Int32)), (.int p1), (.ref a1)])) rfl (by rw [hml]; rfl) (Steps.refl _) (argsL := [(.int p1), (.int (4 : Int32))]) (rest := []) (lenOf pd_17 rfl) rfl (by show 2 * 0 + _ ≤ _; exact Nat.le_of_eq rfl) (hb hby d27_6) (fun _ _ => ⟨rfl, e1, (by decide : 0 + 1 ≤ _), (by decide : 0 + 5 ≤ _)⟩)
  dsimp only [Pt.U, Pt.locs, Pt.cells, Pt.slots] at X2 l2 y2 z2 st2 hQ2
  subst y2 z2
  obtain ⟨b2, rfl, N2q, K2, q2, B2, P2⟩ := hQ2
  have N2 : Fr n0 L2 := by rw [l2]; exact Fr.app N0 N2q
  have Z3 : n0 ≤ T2.heap.size := Nat.le_trans Z0 K2.1
  obtain ⟨fs, hr, hrun, hended, hW, hsame⟩ := X2.leave (v := some (.ref b2)) (fun h => by rw [Bd.returns] at h; cases h) Bd.notSynchronized
  refine ⟨_, _, pre0 _ ?_, hrun, hended, _, _, rfl, ?_, ⟨_, rfl⟩, hW, hsame.mono (by decide) (by decide)⟩
  · show Steps p.tables e below (s₁.setTop (mkF m 0 #[.val (.ref a1), .val (.int p1), .val (.ref a3)] [])) _
    refine XS.aloadN X0.here hx rfl (hb hby d27_0) rfl rfl ?_
    refine XS.iloadN X0.here hx rfl (hb hby d27_1) rfl ?_
    refine XS.aloadN X0.here hx rfl (hb hby d27_2) rfl rfl ?_
    refine st1 _ ?_
    refine st2.trans ?_
    show Steps p.tables e below (T2.setTop (mkF m 9 #[.val (.ref a1), .val (.int p1), .val (.ref a3)] [(.ref b2)])) _
    jvm_step X2.here [X2.here.top, hx, (hb hby d27_9), X2.method', Bd.returns, Value.isRef, FieldType.isReference]
    first | (intro acts; rw [hr _ acts rfl rfl rfl]) | rw [hr _ _ rfl rfl rfl]
    exact Steps.refl _
  · show QrmSsR Z a1 p1 a3 sc z h0 n0 _ T2.heap _
    exact ⟨b2, rfl, N2, by exact ⟨K2, q2, B2, P2⟩⟩
theorem d26_0 : decode c_36 0 = .ok (.aload_n 0, 1) := by decide +kernel
theorem d26_1 : decode c_36 1 = .ok (.iload_n 1, 1) := by decide +kernel
theorem d26_2 : decode c_36 2 = .ok (.getstatic 13, 3) := by decide +kernel
theorem d26_5 : decode c_36 5 = .ok (.invokevirtual 19, 3) := by decide +kernel
theorem pd_18 : parseMethodDescriptor "(ILjava/math/RoundingMode;)Ljava/math/BigDecimal;" = some ⟨[.int, (.object "java/math/RoundingMode")], some (.object "java/math/BigDecimal")⟩ := by decide +kernel
theorem d26_8 : decode c_36 8 = .ok (.areturn, 1) := by decide +kernel
theorem pn_com_example_tipple_tipple_Decimals : plainName "com/example/tipple/tipple/Decimals" = true := by first | (simp [plainName, overriddenIn]; done) | decide +kernel
theorem ef_rmRd (m : MethodId) (x0 : Addr) (x1 : Int32) : entryFrame m #[(.ref x0), (.int x1)] 2 = mkF m 0 #[.val (.ref x0), .val (.int x1)] [] := by first | (simp [entryFrame, mkF, argsToLocals, Value.category]; done) | rfl
def QrmRd (Z : State) (a1 : Addr) (p1 : Int32) (sc : Int32) (z : Int64) (h0 : Heap) (n0 : Nat) (v : Option Value) (h : Heap) (L : List Loc) : Prop := ∃ b, v = some (.ref b) ∧ Fr n0 L ∧ own_QB Z h0 h n0 b p1 (own_dv z (own_pw (sc - p1)))
theorem rmRd (l : Launch) (Z : State) (a0 : Array Value) (hw : ∀ d ∈ tables_1, d.before a0 Z = true) (ws : List Jvm.Cond) (a1 : Addr) (p1 : Int32) (sc : Int32) (z : Int64) (h0 : Heap) (n0 : Nat) (Z0 : n0 ≤ h0.size) (J : own_J Z) (O0 : Old Z n0 h0) (B : own_BD Z h0 a1 sc z) (hz : own_HB z) (hs : own_S8 sc) (hp : own_S8 p1) (hlt : p1.toInt < sc.toInt) :
    MetFree l m_39 (head1 (Jvm.Cond.code m_39 prog_24_method_3_code 2 (some (.object "java/math/BigDecimal")) :: ws) ({ frames := 8, cells := 1, slots := 5, locals := 126 } : Room)) (fun a U => a = #[(.ref a1), (.int p1)] ∧ Z.Warmed39 U.vm ∧ U.heap = h0) (fun _ _ _ _ _ => True) (fun _ U o U' => ∃ v L, o = .returned v ∧ QrmRd Z a1 p1 sc z h0 n0 v U'.heap L ∧ FrameEnd U o U' L ({ frames := 8, cells := 1, slots := 5, locals := 126 } : Room).cells ({ frames := 8, cells := 1, slots := 5, locals := 126 } : Room).slots) := by
  refine MetFree.of_bodySF (plainFor_of_name pn_com_example_tipple_tipple_Decimals) hisR ?_
  intro p e s m args below meth c s₁ Bd hml0 hP hK
  obtain ⟨rfl, hZ, hh⟩ := hP
  have hx := Bd.exec
  have hby := Bd.bytes
  have hml : c.maxLocals = 2 := hml0
  have hown : s.vm.findClass "com/example/tipple/tipple/Decimals" = some m.cls := findClass_of_methodNamed Bd.named
  have hnm := (name_of_methodNamed Bd.named Bd.method).1
  have X0 : Stand p l e ({ frames := 8, cells := 1, slots := 5, locals := 126 } : Room) s m #[(.ref a1), (.int p1)] below meth c s₁ [] 0 0 := Stand.of_body Bd
  have e0 : s₁.heap = h0 := by rw [← hh, Bd.state]; rfl
  have N0 := Fr.nil n0
  have pre0 : ∀ t, Steps p.tables e below (s₁.setTop (mkF m 0 #[.val (.ref a1), .val (.int p1)] [])) t → Steps p.tables e below (s₁.setTop (entryFrame m #[(.ref a1), (.int p1)] 2)) t := fun t k => castTop (ef_rmRd m a1 p1) k
  obtain ⟨bH, sHU, FHU⟩ := J.half
  have f1 := sHU.ext O0.2
  obtain ⟨T2, X2, e2, st2⟩ := getS2 X0 hx hZ hown (host := "") (Or.inl (own_w hw 148 rfl)) Via.refl e0 f1 (g := (mkF m 2 #[.val (.ref a1), .val (.int p1)] [(.int p1), (.ref a1)])) rfl (hb hby d26_2)
  have f3 := FHU.ext O0.2
  obtain ⟨cq4, kq4, q4a, q4b, q4c⟩ := isOf hZ e2 B.1
  obtain ⟨_, _, ⟨T4, L4, k4, n4⟩, -, X4, ⟨Lc4, hQ4, l4, y4, z4⟩, st4⟩ := X2.virtualBack hx (y := m_28) (z := m_28) hown (mvT hZ (own_w hw 150 rfl)) (mvT hZ (own_w hw 151 rfl)) (notFace_of_selects (args := #[]) (mvT hZ (own_w hw 153 rfl))) (mvT hZ (own_w hw 153 rfl)) (mvT hZ (own_w hw 152 rfl)) (by decide) (backOf (W := 0) (rmSsR l Z a0 hw [] a1 p1 bH sc z h0 n0 Z0 J O0 B hz hs hp hlt f3) hZ (own_w hw 154 rfl) (own_w hw 9 rfl) (by decide) (by decide)) q4a q4c (g := (mkF m 5 #[.val (.ref a1), .val (.int p1)] [(.ref bH), (.int p1), (.ref a1)])) rfl (by rw [hml]; rfl) (Steps.refl _) (argsL := [(.int p1), (.ref bH)]) (rest := []) (lenOf pd_18 rfl) rfl (by show 2 * 0 + _ ≤ _; exact Nat.le_of_eq rfl) (hb hby d26_5) (fun _ _ => ⟨rfl, e2, (by decide : 0 + 1 ≤ _), (by decide : 0 + 5 ≤ _)⟩)
  dsimp only [Pt.U, Pt.locs, Pt.cells, Pt.slots] at X4 l4 y4 z4 st4 hQ4
  subst y4 z4
  obtain ⟨b4, rfl, N4q, K4, q4, B4, P4⟩ := hQ4
  have N4 : Fr n0 L4 := by rw [l4]; exact Fr.app N0 N4q
  have Z5 : n0 ≤ T4.heap.size := Nat.le_trans Z0 K4.1
  obtain ⟨fs, hr, hrun, hended, hW, hsame⟩ := X4.leave (v := some (.ref b4)) (fun h => by rw [Bd.returns] at h; cases h) Bd.notSynchronized
  refine ⟨_, _, pre0 _ ?_, hrun, hended, _, _, rfl, ?_, ⟨_, rfl⟩, hW, hsame.mono (by decide) (by decide)⟩
  · show Steps p.tables e below (s₁.setTop (mkF m 0 #[.val (.ref a1), .val (.int p1)] [])) _
    refine XS.aloadN X0.here hx rfl (hb hby d26_0) rfl rfl ?_
    refine XS.iloadN X0.here hx rfl (hb hby d26_1) rfl ?_
    refine st2 _ ?_
    refine st4.trans ?_
    show Steps p.tables e below (T4.setTop (mkF m 8 #[.val (.ref a1), .val (.int p1)] [(.ref b4)])) _
    jvm_step X4.here [X4.here.top, hx, (hb hby d26_8), X4.method', Bd.returns, Value.isRef, FieldType.isReference]
    first | (intro acts; rw [hr _ acts rfl rfl rfl]) | rw [hr _ _ rfl rfl rfl]
    exact Steps.refl _
  · show QrmRd Z a1 p1 sc z h0 n0 _ T4.heap _
    exact ⟨b4, rfl, N4, by exact ⟨K4, q4, B4, P4⟩⟩
theorem own_kk {h0 h1 h2 : Heap} {ws ws' : List Addr} (K : Keep h0 h1 ws) (K' : Keep h1 h2 ws') : Keep h0 h2 (ws ++ ws') := by
  have a : Keep h0 h1 (ws ++ ws') := ⟨K.1, fun x c q r => K.2.1 x c q fun z => r (List.mem_append.mpr (Or.inl z)), K.2.2⟩
  exact a.trans K' fun x hx => Or.inl (List.mem_append.mpr (Or.inr hx))
theorem own_hmM {x : Int64} {k : Int32} (h : own_MB x k) : ¬ (lcmpW (x * (own_pw k)) (-9223372036854775808 : Int64) = (0 : Int32)) := fun q => by
  have e := (lw_eq _ _).mp q
  have m := own_mul h
  have k : (-9223372036854775808 : Int64).toInt = -9223372036854775808 := by decide
  rw [e] at m
  obtain ⟨h1, h2⟩ := h
  omega
theorem own_lc0 (x y : Int64) : own_lc x y = 0 ↔ x = y := by
  unfold own_lc
  by_cases q : lcmpW x y < (0 : Int32)
  · rw [if_pos q]
    rw [lw_lt, Int64.lt_iff_toInt_lt] at q
    exact ⟨fun z => absurd z (by decide), fun z => by rw [z] at q; omega⟩
  · rw [if_neg q]
    by_cases r : lcmpW x y = (0 : Int32)
    · rw [if_pos r]; exact ⟨fun _ => (lw_eq _ _).mp r, fun _ => rfl⟩
    · rw [if_neg r]; exact ⟨fun z => absurd z (by decide), fun z => absurd ((lw_eq _ _).mpr z) r⟩
theorem own_pows {D1 D2 n a b : Nat} (h1 : 1 ≤ D1) (h2 : 1 ≤ D2) (a1 : 10 ^ (D1 - 1) ≤ a) (a2 : a < 10 ^ D1) (b1 : 10 ^ (D2 - 1) ≤ b) (b2 : b < 10 ^ D2) (e : a * 10 ^ n = b) : D2 = D1 + n := by
  have p : 0 < 10 ^ n := Nat.pow_pos (by decide)
  have l : 10 ^ (D1 - 1 + n) ≤ b := by rw [Nat.pow_add, ← e]; exact Nat.mul_le_mul_right _ a1
  have u : b < 10 ^ (D1 + n) := by rw [Nat.pow_add, ← e]; exact Nat.mul_lt_mul_of_pos_right a2 p
  have x1 : D1 - 1 + n < D2 := (Nat.pow_lt_pow_iff_right (show 1 < 10 by decide)).mp (Nat.lt_of_le_of_lt l b2)
  have x2 : D2 - 1 < D1 + n := (Nat.pow_lt_pow_iff_right (show 1 < 10 by decide)).mp (Nat.lt_of_le_of_lt b1 u)
  omega
theorem own_dig {x y : Int64} {k : Int32} (hx : own_HB x) (hy : own_HB y) (hx0 : ¬ (x = 0)) (hy0 : ¬ (y = 0)) (h0 : 0 ≤ k.toInt) (h1 : k.toInt ≤ 7) (he : (x.toInt * (own_pw k).toInt).natAbs = y.toInt.natAbs) : ∃ D1 D2 : Int, (own_dl x).toInt = D1 ∧ (own_dl y).toInt = D2 ∧ D2 = D1 + k.toInt ∧ 1 ≤ D1 ∧ D1 ≤ 18 ∧ D2 ≤ 18 := by
  have k0 : (0 : Int64).toInt = 0 := rfl
  have x0 : x.toInt ≠ 0 := fun q => hx0 (Int64.toInt_inj.mp (by omega))
  have y0 : y.toInt ≠ 0 := fun q => hy0 (Int64.toInt_inj.mp (by omega))
  obtain ⟨hx1, hx2⟩ := hx; obtain ⟨hy1, hy2⟩ := hy
  have ax := own_abs_i x (by omega); have ay := own_abs_i y (by omega)
  obtain ⟨D1, d1, d2, d3, d4, d5⟩ := own_dla_spec (own_abs x) (by omega) (by omega)
  obtain ⟨D2, f1, f2, f3, f4, f5⟩ := own_dla_spec (own_abs y) (by omega) (by omega)
  rw [ax] at d4 d5; rw [ay] at f4 f5
  have pw := own_pw_i k h0 (by omega)
  rw [pw, Int.natAbs_mul, Int.natAbs_natCast] at he
  have r := own_pows d2 f2 (by exact_mod_cast d4) (by exact_mod_cast d5) (by exact_mod_cast f4) (by exact_mod_cast f5) he
  exact ⟨D1, D2, d1, f1, by omega, by omega, by omega, by omega⟩
theorem own_ae {x y : Int64} {s1 s2 : Int32} (hx : own_HB x) (hy : own_HB y) (hx0 : ¬ (x = 0)) (hy0 : ¬ (y = 0)) (hs1 : own_S8 s1) (hs2 : own_S8 s2) (hlt : s1.toInt < s2.toInt) (he : (x.toInt * (own_pw (s2 - s1)).toInt).natAbs = y.toInt.natAbs) : (((own_dl x).toInt64) - (s1.toInt64)) = (((own_dl y).toInt64) - (s2.toInt64)) := by
  obtain ⟨g1, g2, -⟩ := own_gap hs2 hs1 hlt
  obtain ⟨D1, D2, a, b, c, d, e, f⟩ := own_dig hx hy hx0 hy0 (by omega) g2 he
  have dk := (own_dk hs2 hs1).2.2.2
  have i1 := c_i2l (own_dl x); have i2 := c_i2l (own_dl y); have i3 := c_i2l s1; have i4 := c_i2l s2
  have u1 := c_lsub (own_dl x).toInt64 s1.toInt64; have u2 := Int64.toInt_lt ((own_dl x).toInt64 - s1.toInt64); have u3 := Int64.le_toInt ((own_dl x).toInt64 - s1.toInt64)
  have v1 := c_lsub (own_dl y).toInt64 s2.toInt64; have v2 := Int64.toInt_lt ((own_dl y).toInt64 - s2.toInt64); have v3 := Int64.le_toInt ((own_dl y).toInt64 - s2.toInt64)
  obtain ⟨hs11, hs12⟩ := hs1; obtain ⟨hs21, hs22⟩ := hs2
  exact Int64.toInt_inj.mp (by omega)
theorem own_sd {s1 s2 : Int32} (hs1 : own_S8 s1) (hs2 : own_S8 s2) (hlt : s1.toInt < s2.toInt) : ¬ (lcmpW ((s1.toInt64) - (s2.toInt64)) (0 : Int64) = (0 : Int32)) ∧ lcmpW ((s1.toInt64) - (s2.toInt64)) (0 : Int64) < (0 : Int32) ∧ (0 : Int32) < lcmpW ((s1.toInt64) - (s2.toInt64)) (-2147483648 : Int64) := by
  have q := (own_dk hs1 hs2).2.2.1
  have k0 : (0 : Int64).toInt = 0 := rfl
  have k1 : (-2147483648 : Int64).toInt = -2147483648 := by decide
  obtain ⟨hs11, hs12⟩ := hs1; obtain ⟨hs21, hs22⟩ := hs2
  refine ⟨fun z => ?_, ?_, ?_⟩
  · rw [(lw_eq _ _).mp z] at q; omega
  · rw [lw_lt, Int64.lt_iff_toInt_lt]; omega
  · rw [lw_gt, Int64.lt_iff_toInt_lt]; omega
theorem own_absq {x y : Int64} (hx : -9223372036854775808 < x.toInt) (hy : -9223372036854775808 < y.toInt) : own_abs x = own_abs y ↔ x.toInt.natAbs = y.toInt.natAbs := by
  rw [← Int64.toInt_inj, own_abs_i x hx, own_abs_i y hy]
  omega
theorem d38_0 : decode c_21 0 = .ok (.aload_n 1, 1) := by decide +kernel
theorem d38_1 : decode c_21 1 = .ok (.getfield 24, 3) := by decide +kernel
theorem d38_4 : decode c_21 4 = .ok (.lstore_n 2, 1) := by decide +kernel
theorem d38_5 : decode c_21 5 = .ok (.aload_n 0, 1) := by decide +kernel
theorem d38_6 : decode c_21 6 = .ok (.getfield 24, 3) := by decide +kernel
theorem d38_9 : decode c_21 9 = .ok (.lstore 4, 2) := by decide +kernel
theorem d38_11 : decode c_21 11 = .ok (.lload 4, 2) := by decide +kernel
theorem d38_13 : decode c_21 13 = .ok (.lconst 0, 1) := by decide +kernel
theorem d38_14 : decode c_21 14 = .ok (.lcmp, 1) := by decide +kernel
theorem d38_15 : decode c_21 15 = .ok (.ifCond .ne 15, 3) := by decide +kernel
theorem d38_30 : decode c_21 30 = .ok (.lload_n 2, 1) := by decide +kernel
theorem d38_31 : decode c_21 31 = .ok (.lconst 0, 1) := by decide +kernel
theorem d38_32 : decode c_21 32 = .ok (.lcmp, 1) := by decide +kernel
theorem d38_33 : decode c_21 33 = .ok (.ifCond .ne 5, 3) := by decide +kernel
theorem d38_38 : decode c_21 38 = .ok (.aload_n 0, 1) := by decide +kernel
theorem d38_39 : decode c_21 39 = .ok (.getfield 17, 3) := by decide +kernel
theorem d38_42 : decode c_21 42 = .ok (.i2l, 1) := by decide +kernel
theorem d38_43 : decode c_21 43 = .ok (.aload_n 1, 1) := by decide +kernel
theorem d38_44 : decode c_21 44 = .ok (.getfield 17, 3) := by decide +kernel
theorem d38_47 : decode c_21 47 = .ok (.i2l, 1) := by decide +kernel
theorem d38_48 : decode c_21 48 = .ok (.lsub, 1) := by decide +kernel
theorem d38_49 : decode c_21 49 = .ok (.lstore 6, 2) := by decide +kernel
theorem d38_51 : decode c_21 51 = .ok (.lload 6, 2) := by decide +kernel
theorem d38_53 : decode c_21 53 = .ok (.lconst 0, 1) := by decide +kernel
theorem d38_54 : decode c_21 54 = .ok (.lcmp, 1) := by decide +kernel
theorem d38_55 : decode c_21 55 = .ok (.ifCond .eq 182, 3) := by decide +kernel
theorem d38_58 : decode c_21 58 = .ok (.aload_n 0, 1) := by decide +kernel
theorem d38_59 : decode c_21 59 = .ok (.invokevirtual 289, 3) := by decide +kernel
theorem d38_62 : decode c_21 62 = .ok (.i2l, 1) := by decide +kernel
theorem d38_63 : decode c_21 63 = .ok (.aload_n 0, 1) := by decide +kernel
theorem d38_64 : decode c_21 64 = .ok (.getfield 17, 3) := by decide +kernel
theorem d38_67 : decode c_21 67 = .ok (.i2l, 1) := by decide +kernel
theorem d38_68 : decode c_21 68 = .ok (.lsub, 1) := by decide +kernel
theorem d38_69 : decode c_21 69 = .ok (.lstore 8, 2) := by decide +kernel
theorem d38_71 : decode c_21 71 = .ok (.aload_n 1, 1) := by decide +kernel
theorem d38_72 : decode c_21 72 = .ok (.invokevirtual 289, 3) := by decide +kernel
theorem d38_75 : decode c_21 75 = .ok (.i2l, 1) := by decide +kernel
theorem d38_76 : decode c_21 76 = .ok (.aload_n 1, 1) := by decide +kernel
theorem d38_77 : decode c_21 77 = .ok (.getfield 17, 3) := by decide +kernel
theorem d38_80 : decode c_21 80 = .ok (.i2l, 1) := by decide +kernel
theorem d38_81 : decode c_21 81 = .ok (.lsub, 1) := by decide +kernel
theorem d38_82 : decode c_21 82 = .ok (.lstore 10, 2) := by decide +kernel
theorem d38_84 : decode c_21 84 = .ok (.lload 8, 2) := by decide +kernel
theorem d38_86 : decode c_21 86 = .ok (.lload 10, 2) := by decide +kernel
theorem d38_88 : decode c_21 88 = .ok (.lcmp, 1) := by decide +kernel
theorem d38_89 : decode c_21 89 = .ok (.ifCond .ge 5, 3) := by decide +kernel
theorem d38_92 : decode c_21 92 = .ok (.iconst (-1), 1) := by decide +kernel
theorem d38_93 : decode c_21 93 = .ok (.ireturn, 1) := by decide +kernel
theorem d38_94 : decode c_21 94 = .ok (.lload 8, 2) := by decide +kernel
theorem d38_96 : decode c_21 96 = .ok (.lload 10, 2) := by decide +kernel
theorem d38_98 : decode c_21 98 = .ok (.lcmp, 1) := by decide +kernel
theorem d38_99 : decode c_21 99 = .ok (.ifCond .le 5, 3) := by decide +kernel
theorem d38_102 : decode c_21 102 = .ok (.iconst 1, 1) := by decide +kernel
theorem d38_103 : decode c_21 103 = .ok (.ireturn, 1) := by decide +kernel
theorem d38_104 : decode c_21 104 = .ok (.lload 6, 2) := by decide +kernel
theorem d38_106 : decode c_21 106 = .ok (.lconst 0, 1) := by decide +kernel
theorem d38_107 : decode c_21 107 = .ok (.lcmp, 1) := by decide +kernel
theorem d38_108 : decode c_21 108 = .ok (.ifCond .ge 68, 3) := by decide +kernel
theorem d38_111 : decode c_21 111 = .ok (.lload 6, 2) := by decide +kernel
theorem d38_113 : decode c_21 113 = .ok (.ldc2_w 628, 3) := by decide +kernel
theorem d38_116 : decode c_21 116 = .ok (.lcmp, 1) := by decide +kernel
theorem d38_117 : decode c_21 117 = .ok (.ifCond .le 120, 3) := by decide +kernel
theorem d38_120 : decode c_21 120 = .ok (.lload 4, 2) := by decide +kernel
theorem d38_122 : decode c_21 122 = .ok (.ldc2_w 125, 3) := by decide +kernel
theorem d38_125 : decode c_21 125 = .ok (.lcmp, 1) := by decide +kernel
theorem d38_126 : decode c_21 126 = .ok (.ifCond .eq 22, 3) := by decide +kernel
theorem d38_129 : decode c_21 129 = .ok (.lload 4, 2) := by decide +kernel
theorem d38_131 : decode c_21 131 = .ok (.lload 6, 2) := by decide +kernel
theorem d38_133 : decode c_21 133 = .ok (.lneg, 1) := by decide +kernel
theorem d38_134 : decode c_21 134 = .ok (.l2i, 1) := by decide +kernel
theorem d38_135 : decode c_21 135 = .ok (.invokestatic 599, 3) := by decide +kernel
theorem d38_138 : decode c_21 138 = .ok (.dup2, 1) := by decide +kernel
theorem d38_139 : decode c_21 139 = .ok (.lstore 4, 2) := by decide +kernel
theorem d38_141 : decode c_21 141 = .ok (.ldc2_w 125, 3) := by decide +kernel
theorem d38_144 : decode c_21 144 = .ok (.lcmp, 1) := by decide +kernel
theorem d38_145 : decode c_21 145 = .ok (.ifCond .ne 92, 3) := by decide +kernel
theorem d38_237 : decode c_21 237 = .ok (.lload 4, 2) := by decide +kernel
theorem d38_239 : decode c_21 239 = .ok (.ldc2_w 125, 3) := by decide +kernel
theorem d38_242 : decode c_21 242 = .ok (.lcmp, 1) := by decide +kernel
theorem d38_243 : decode c_21 243 = .ok (.ifCond .eq 22, 3) := by decide +kernel
theorem d38_246 : decode c_21 246 = .ok (.lload_n 2, 1) := by decide +kernel
theorem d38_247 : decode c_21 247 = .ok (.ldc2_w 125, 3) := by decide +kernel
theorem d38_250 : decode c_21 250 = .ok (.lcmp, 1) := by decide +kernel
theorem d38_251 : decode c_21 251 = .ok (.ifCond .eq 12, 3) := by decide +kernel
theorem d38_254 : decode c_21 254 = .ok (.lload 4, 2) := by decide +kernel
theorem d38_256 : decode c_21 256 = .ok (.lload_n 2, 1) := by decide +kernel
theorem d38_257 : decode c_21 257 = .ok (.invokestatic 632, 3) := by decide +kernel
theorem d38_260 : decode c_21 260 = .ok (.goto 4, 3) := by decide +kernel
theorem d38_264 : decode c_21 264 = .ok (.ireturn, 1) := by decide +kernel
theorem ef_rmCm (m : MethodId) (x0 : Addr) (x1 : Addr) : entryFrame m #[(.ref x0), (.ref x1)] 13 = mkF m 0 #[.val (.ref x0), .val (.ref x1), .unset, .unset, .unset, .unset, .unset, .unset, .unset, .unset, .unset, .unset, .unset] [] := by first | (simp [entryFrame, mkF, argsToLocals, Value.category]; done) | rfl
def QrmCm (Z : State) (a1 : Addr) (a2 : Addr) (s1 : Int32) (x : Int64) (s2 : Int32) (y : Int64) (h0 : Heap) (n0 : Nat) (v : Option Value) (h : Heap) (L : List Loc) : Prop := ∃ c : Int32, v = some (.int c) ∧ Fr n0 L ∧ (c = 0 ↔ (x.toInt * (own_pw (s2 - s1)).toInt).natAbs = y.toInt.natAbs) ∧ ∃ ws, Keep h0 h ws ∧ (∀ x' ∈ ws, (x' = a1 ∨ x' = a2) ∧ n0 ≤ x') ∧ own_BD Z h a1 s1 x ∧ own_BD Z h a2 s2 y
theorem rmCm (l : Launch) (Z : State) (a0 : Array Value) (hw : ∀ d ∈ tables_1, d.before a0 Z = true) (ws : List Jvm.Cond) (a1 : Addr) (a2 : Addr) (s1 : Int32) (x : Int64) (s2 : Int32) (y : Int64) (h0 : Heap) (n0 : Nat) (Z0 : n0 ≤ h0.size) (J : own_J Z) (O0 : Old Z n0 h0) (B1 : own_BD Z h0 a1 s1 x) (B2 : own_BD Z h0 a2 s2 y) (hne : a1 ≠ a2) (hxB : own_HB x) (hyB : own_HB y) (hs1 : own_S8 s1) (hs2 : own_S8 s2) (hlt : s1.toInt < s2.toInt) (hmb : own_MB x (s2 - s1)) (P1 : own_PS Z h0 n0 a1 x) (P2 : own_PS Z h0 n0 a2 y) (hx0 : ¬ (x = 0)) (hy0 : ¬ (y = 0)) :
    MetFree l m_40 (head1 (Jvm.Cond.code m_40 jdk_17_method_71_code 13 (some .int) :: ws) ({ frames := 4, cells := 0, slots := 0, locals := 59 } : Room)) (fun a U => a = #[(.ref a1), (.ref a2)] ∧ Z.Warmed39 U.vm ∧ U.heap = h0) (fun _ _ _ _ _ => True) (fun _ U o U' => ∃ v L, o = .returned v ∧ QrmCm Z a1 a2 s1 x s2 y h0 n0 v U'.heap L ∧ FrameEnd U o U' L ({ frames := 4, cells := 0, slots := 0, locals := 59 } : Room).cells ({ frames := 4, cells := 0, slots := 0, locals := 59 } : Room).slots) := by
  refine MetFree.of_bodySF (plainFor_of_name pn_java_math_BigDecimal) hisR ?_
  intro p e s m args below meth c s₁ Bd hml0 hP hK
  obtain ⟨rfl, hZ, hh⟩ := hP
  have hx := Bd.exec
  have hby := Bd.bytes
  have hml : c.maxLocals = 13 := hml0
  have hown : s.vm.findClass "java/math/BigDecimal" = some m.cls := findClass_of_methodNamed Bd.named
  have hnm := (name_of_methodNamed Bd.named Bd.method).1
  have X0 : Stand p l e ({ frames := 4, cells := 0, slots := 0, locals := 59 } : Room) s m #[(.ref a1), (.ref a2)] below meth c s₁ [] 0 0 := Stand.of_body Bd
  have e0 : s₁.heap = h0 := by rw [← hh, Bd.state]; rfl
  have N0 := Fr.nil n0
  have pre0 : ∀ t, Steps p.tables e below (s₁.setTop (mkF m 0 #[.val (.ref a1), .val (.ref a2), .unset, .unset, .unset, .unset, .unset, .unset, .unset, .unset, .unset, .unset, .unset] [])) t → Steps p.tables e below (s₁.setTop (entryFrame m #[(.ref a1), (.ref a2)] 13)) t := fun t k => castTop (ef_rmCm m a1 a2) k
  obtain ⟨sd1, sd2, sd3⟩ := own_sd hs1 hs2 hlt
  obtain ⟨gp1, gp2, -⟩ := own_gap hs2 hs1 hlt
  obtain ⟨T1, X1, e1, st1⟩ := getF X0 hx hZ hown (host := "") (Or.inl (own_w hw 35 rfl)) Via.refl e0 B2.2.2 (g := (mkF m 1 #[.val (.ref a1), .val (.ref a2), .unset, .unset, .unset, .unset, .unset, .unset, .unset, .unset, .unset, .unset, .unset] [(.ref a2)])) rfl rfl (hb hby d38_1)
  obtain ⟨T2, X2, e2, st2⟩ := getF X1 hx hZ hown (host := "") (Or.inl (own_w hw 35 rfl)) Via.refl e1 B1.2.2 (g := (mkF m 6 #[.val (.ref a1), .val (.ref a2), .val (.long y), .second, .unset, .unset, .unset, .unset, .unset, .unset, .unset, .unset, .unset] [(.ref a1)])) rfl rfl (hb hby d38_6)
  obtain ⟨T3, X3, e3, st3⟩ := getF X2 hx hZ hown (host := "") (Or.inl (own_w hw 31 rfl)) Via.refl e2 B1.2.1 (g := (mkF m 39 #[.val (.ref a1), .val (.ref a2), .val (.long y), .second, .val (.long x), .second, .unset, .unset, .unset, .unset, .unset, .unset, .unset] [(.ref a1)])) rfl rfl (hb hby d38_39)
  obtain ⟨T4, X4, e4, st4⟩ := getF X3 hx hZ hown (host := "") (Or.inl (own_w hw 31 rfl)) Via.refl e3 B2.2.1 (g := (mkF m 44 #[.val (.ref a1), .val (.ref a2), .val (.long y), .second, .val (.long x), .second, .unset, .unset, .unset, .unset, .unset, .unset, .unset] [(.ref a2), (.long (s1.toInt64))])) rfl rfl (hb hby d38_44)
  obtain ⟨cq5, kq5, q5a, q5b, q5c⟩ := isOf hZ e4 B1.1
  obtain ⟨_, _, ⟨T5, L5, k5, n5⟩, -, X5, ⟨Lc5, hQ5, l5, y5, z5⟩, st5⟩ := X4.virtualBack hx (y := m_10) (z := m_10) hown (mvT hZ (own_w hw 205 rfl)) (mvT hZ (own_w hw 206 rfl)) (notFace_of_selects (args := #[]) (mvT hZ (own_w hw 208 rfl))) (mvT hZ (own_w hw 208 rfl)) (mvT hZ (own_w hw 207 rfl)) (by decide) (backOf (W := 0) (rmPr l Z a0 hw [] a1 s1 x h0 n0 Z0 J O0 B1 P1 hxB) hZ (own_w hw 209 rfl) (own_w hw 9 rfl) (by decide) (by decide)) q5a q5c (g := (mkF m 59 #[.val (.ref a1), .val (.ref a2), .val (.long y), .second, .val (.long x), .second, .val (.long ((s1.toInt64) - (s2.toInt64))), .second, .unset, .unset, .unset, .unset, .unset] [(.ref a1)])) rfl (by rw [hml]; rfl) (Steps.refl _) (argsL := []) (rest := []) (lenOf pd_15 rfl) rfl (by show 2 * 0 + _ ≤ _; exact Nat.le_of_eq rfl) (hb hby d38_59) (fun _ _ => ⟨rfl, e4, (by decide : 0 + 0 ≤ _), (by decide : 0 + 0 ≤ _)⟩)
  dsimp only [Pt.U, Pt.locs, Pt.cells, Pt.slots] at X5 l5 y5 z5 st5 hQ5
  subst y5 z5
  obtain ⟨rfl, N5q, ws5, K5, w5, B5⟩ := hQ5
  have N5 : Fr n0 L5 := by rw [l5]; exact Fr.app N0 N5q
  have Z6 : n0 ≤ T5.heap.size := Nat.le_trans Z0 K5.1
  obtain ⟨T7, X7, e7, st7⟩ := getF X5 hx hZ hown (host := "") (Or.inl (own_w hw 31 rfl)) Via.refl rfl B5.2.1 (g := (mkF m 64 #[.val (.ref a1), .val (.ref a2), .val (.long y), .second, .val (.long x), .second, .val (.long ((s1.toInt64) - (s2.toInt64))), .second, .unset, .unset, .unset, .unset, .unset] [(.ref a1), (.long ((own_dl x).toInt64))])) rfl rfl (hb hby d38_64)
  have B2_ := B2.keep K5 (fun z_ => hne (w5 _ z_).1.symm)
  have P2_ := P2.keep K5 (fun z_ => hne (w5 _ z_).1.symm)
  have f9 := B2.1.keep K5
  obtain ⟨cq8, kq8, q8a, q8b, q8c⟩ := isOf hZ e7 f9
  obtain ⟨_, _, ⟨T8, L8, k8, n8⟩, -, X8, ⟨Lc8, hQ8, l8, y8, z8⟩, st8⟩ := X7.virtualBack hx (y := m_10) (z := m_10) hown (mvT hZ (own_w hw 205 rfl)) (mvT hZ (own_w hw 206 rfl)) (notFace_of_selects (args := #[]) (mvT hZ (own_w hw 208 rfl))) (mvT hZ (own_w hw 208 rfl)) (mvT hZ (own_w hw 207 rfl)) (by decide) (backOf (W := 0) (rmPr l Z a0 hw [] a2 s2 y T5.heap n0 Z6 J (O0.keep K5 (fun x_ z_ => (w5 x_ z_).2)) B2_ P2_ hyB) hZ (own_w hw 209 rfl) (own_w hw 9 rfl) (by decide) (by decide)) q8a q8c (g := (mkF m 72 #[.val (.ref a1), .val (.ref a2), .val (.long y), .second, .val (.long x), .second, .val (.long ((s1.toInt64) - (s2.toInt64))), .second, .val (.long (((own_dl x).toInt64) - (s1.toInt64))), .second, .unset, .unset, .unset] [(.ref a2)])) rfl (by rw [hml]; rfl) (Steps.refl _) (argsL := []) (rest := []) (lenOf pd_15 rfl) rfl (by show 2 * 0 + _ ≤ _; exact Nat.le_of_eq rfl) (hb hby d38_72) (fun _ _ => ⟨rfl, e7, (by decide : 0 + 0 ≤ _), (by decide : 0 + 0 ≤ _)⟩)
  dsimp only [Pt.U, Pt.locs, Pt.cells, Pt.slots] at X8 l8 y8 z8 st8 hQ8
  subst y8 z8
  obtain ⟨rfl, N8q, ws8, K8, w8, B8⟩ := hQ8
  have N8 : Fr n0 L8 := by rw [l8]; exact Fr.app N5 N8q
  have Z10 : n0 ≤ T8.heap.size := Nat.le_trans Z6 K8.1
  have B1_ := B5.keep K8 (fun z_ => hne (w8 _ z_).1)
  obtain ⟨T11, X11, e11, st11⟩ := getF X8 hx hZ hown (host := "") (Or.inl (own_w hw 31 rfl)) Via.refl rfl B8.2.1 (g := (mkF m 77 #[.val (.ref a1), .val (.ref a2), .val (.long y), .second, .val (.long x), .second, .val (.long ((s1.toInt64) - (s2.toInt64))), .second, .val (.long (((own_dl x).toInt64) - (s1.toInt64))), .second, .unset, .unset, .unset] [(.ref a2), (.long ((own_dl y).toInt64))])) rfl rfl (hb hby d38_77)
  have pk12 : ∀ target, Steps p.tables e below (T11.setTop (mkF m 89 #[.val (.ref a1), .val (.ref a2), .val (.long y), .second, .val (.long x), .second, .val (.long ((s1.toInt64) - (s2.toInt64))), .second, .val (.long (((own_dl x).toInt64) - (s1.toInt64))), .second, .val (.long (((own_dl y).toInt64) - (s2.toInt64))), .second, .unset] [(.int (lcmpW (((own_dl x).toInt64) - (s1.toInt64)) (((own_dl y).toInt64) - (s2.toInt64))))])) target → Steps p.tables e below (s₁.setTop (mkF m 0 #[.val (.ref a1), .val (.ref a2), .unset, .unset, .unset, .unset, .unset, .unset, .unset, .unset, .unset, .unset, .unset] [])) target := by
    intro target kt
    show Steps p.tables e below (s₁.setTop (mkF m 0 #[.val (.ref a1), .val (.ref a2), .unset, .unset, .unset, .unset, .unset, .unset, .unset, .unset, .unset, .unset, .unset] [])) _
    refine XS.aloadN X0.here hx rfl (hb hby d38_0) rfl rfl ?_
    refine st1 _ ?_
    refine XS.lstoreN X1.here hx rfl (hb hby d38_4) rfl (l' := #[.val (.ref a1), .val (.ref a2), .val (.long y), .second, .unset, .unset, .unset, .unset, .unset, .unset, .unset, .unset, .unset]) rfl ?_
    refine XS.aloadN X1.here hx rfl (hb hby d38_5) rfl rfl ?_
    refine st2 _ ?_
    refine XS.lstore X2.here hx rfl (hb hby d38_9) rfl (l' := #[.val (.ref a1), .val (.ref a2), .val (.long y), .second, .val (.long x), .second, .unset, .unset, .unset, .unset, .unset, .unset, .unset]) rfl ?_
    refine XS.lload X2.here hx rfl (hb hby d38_11) rfl ?_
    refine XS.lconst X2.here hx rfl (hb hby d38_13) ?_
    refine XS.lcmp X2.here hx rfl (hb hby d38_14) rfl ?_
    refine XS.ifYes X2.here hx rfl (pc0 := 15) (pc' := 30) rfl (hb hby d38_15) rfl ((if0 _ _).trans (feq (fun q => hx0 ((lw_eq _ _).mp q) : ¬ ((lcmpW x (0 : Int64)) = (0 : Int32)))).2) (by decide) (by decide) ?_
    refine XS.lloadN X2.here hx rfl (hb hby d38_30) rfl ?_
    refine XS.lconst X2.here hx rfl (hb hby d38_31) ?_
    refine XS.lcmp X2.here hx rfl (hb hby d38_32) rfl ?_
    refine XS.ifYes X2.here hx rfl (pc0 := 33) (pc' := 38) rfl (hb hby d38_33) rfl ((if0 _ _).trans (feq (fun q => hy0 ((lw_eq _ _).mp q) : ¬ ((lcmpW y (0 : Int64)) = (0 : Int32)))).2) (by decide) (by decide) ?_
    refine XS.aloadN X2.here hx rfl (hb hby d38_38) rfl rfl ?_
    refine st3 _ ?_
    refine XS.i2l X3.here hx rfl (hb hby d38_42) rfl ?_
    refine XS.aloadN X3.here hx rfl (hb hby d38_43) rfl rfl ?_
    refine st4 _ ?_
    refine XS.i2l X4.here hx rfl (hb hby d38_47) rfl ?_
    refine XS.lsub X4.here hx rfl (hb hby d38_48) rfl ?_
    refine XS.lstore X4.here hx rfl (hb hby d38_49) rfl (l' := #[.val (.ref a1), .val (.ref a2), .val (.long y), .second, .val (.long x), .second, .val (.long ((s1.toInt64) - (s2.toInt64))), .second, .unset, .unset, .unset, .unset, .unset]) rfl ?_
    refine XS.lload X4.here hx rfl (hb hby d38_51) rfl ?_
    refine XS.lconst X4.here hx rfl (hb hby d38_53) ?_
    refine XS.lcmp X4.here hx rfl (hb hby d38_54) rfl ?_
    refine XS.ifNo X4.here hx rfl (hb hby d38_55) rfl ((if0 _ _).trans (feq (sd1 : ¬ ((lcmpW ((s1.toInt64) - (s2.toInt64)) (0 : Int64)) = (0 : Int32)))).1) ?_
    show Steps p.tables e below (T4.setTop (mkF m 58 #[.val (.ref a1), .val (.ref a2), .val (.long y), .second, .val (.long x), .second, .val (.long ((s1.toInt64) - (s2.toInt64))), .second, .unset, .unset, .unset, .unset, .unset] [])) _
    refine XS.aloadN X4.here hx rfl (hb hby d38_58) rfl rfl ?_
    refine st5.trans ?_
    refine XS.i2l X5.here hx rfl (hb hby d38_62) rfl ?_
    refine XS.aloadN X5.here hx rfl (hb hby d38_63) rfl rfl ?_
    refine st7 _ ?_
    refine XS.i2l X7.here hx rfl (hb hby d38_67) rfl ?_
    refine XS.lsub X7.here hx rfl (hb hby d38_68) rfl ?_
    refine XS.lstore X7.here hx rfl (hb hby d38_69) rfl (l' := #[.val (.ref a1), .val (.ref a2), .val (.long y), .second, .val (.long x), .second, .val (.long ((s1.toInt64) - (s2.toInt64))), .second, .val (.long (((own_dl x).toInt64) - (s1.toInt64))), .second, .unset, .unset, .unset]) rfl ?_
    refine XS.aloadN X7.here hx rfl (hb hby d38_71) rfl rfl ?_
    refine st8.trans ?_
    refine XS.i2l X8.here hx rfl (hb hby d38_75) rfl ?_
    refine XS.aloadN X8.here hx rfl (hb hby d38_76) rfl rfl ?_
    refine st11 _ ?_
    refine XS.i2l X11.here hx rfl (hb hby d38_80) rfl ?_
    refine XS.lsub X11.here hx rfl (hb hby d38_81) rfl ?_
    refine XS.lstore X11.here hx rfl (hb hby d38_82) rfl (l' := #[.val (.ref a1), .val (.ref a2), .val (.long y), .second, .val (.long x), .second, .val (.long ((s1.toInt64) - (s2.toInt64))), .second, .val (.long (((own_dl x).toInt64) - (s1.toInt64))), .second, .val (.long (((own_dl y).toInt64) - (s2.toInt64))), .second, .unset]) rfl ?_
    refine XS.lload X11.here hx rfl (hb hby d38_84) rfl ?_
    refine XS.lload X11.here hx rfl (hb hby d38_86) rfl ?_
    refine XS.lcmp X11.here hx rfl (hb hby d38_88) rfl ?_
    exact kt
  by_cases hq1 : (lcmpW (((own_dl x).toInt64) - (s1.toInt64)) (((own_dl y).toInt64) - (s2.toInt64))) < (0 : Int32)
  · obtain ⟨fs, hr, hrun, hended, hW, hsame⟩ := X11.leave (v := some (.int (-1 : Int32))) (fun h => by rw [Bd.returns] at h; cases h) Bd.notSynchronized
    refine ⟨_, _, pre0 _ ?_, hrun, hended, _, _, rfl, ?_, ⟨_, rfl⟩, hW, hsame.mono (by decide) (by decide)⟩
    · refine pk12 _ ?_
      show Steps p.tables e below (T11.setTop (mkF m 89 #[.val (.ref a1), .val (.ref a2), .val (.long y), .second, .val (.long x), .second, .val (.long ((s1.toInt64) - (s2.toInt64))), .second, .val (.long (((own_dl x).toInt64) - (s1.toInt64))), .second, .val (.long (((own_dl y).toInt64) - (s2.toInt64))), .second, .unset] [(.int (lcmpW (((own_dl x).toInt64) - (s1.toInt64)) (((own_dl y).toInt64) - (s2.toInt64))))])) _
      refine XS.ifNo X11.here hx rfl (hb hby d38_89) rfl ((if0 _ _).trans (tlt (hq1 : (lcmpW (((own_dl x).toInt64) - (s1.toInt64)) (((own_dl y).toInt64) - (s2.toInt64))) < (0 : Int32))).2.1) ?_
      refine XS.iconst X11.here hx rfl (hb hby d38_92) ?_
      show Steps p.tables e below (T11.setTop (mkF m 93 #[.val (.ref a1), .val (.ref a2), .val (.long y), .second, .val (.long x), .second, .val (.long ((s1.toInt64) - (s2.toInt64))), .second, .val (.long (((own_dl x).toInt64) - (s1.toInt64))), .second, .val (.long (((own_dl y).toInt64) - (s2.toInt64))), .second, .unset] [(.int (-1 : Int32))])) _
      exact retI X11 hx Bd.returns (hb hby d38_93) hr
    · show QrmCm Z a1 a2 s1 x s2 y h0 n0 _ T11.heap _
      rw [e11]
      exact ⟨(-1 : Int32), rfl, N8, ⟨fun z_ => absurd z_ (by decide), fun he => absurd hq1 (by rw [own_ae hxB hyB hx0 hy0 hs1 hs2 hlt he, lw_lt]; exact Int64.lt_irrefl)⟩, ⟨_, own_kk K5 K8, fun x_ z_ => (List.mem_append.mp z_).elim (fun u => ⟨Or.inl (w5 x_ u).1, (w5 x_ u).2⟩) (fun u => ⟨Or.inr (w8 x_ u).1, (w8 x_ u).2⟩), B1_, B8⟩⟩
  · have pk13 : ∀ target, Steps p.tables e below (T11.setTop (mkF m 99 #[.val (.ref a1), .val (.ref a2), .val (.long y), .second, .val (.long x), .second, .val (.long ((s1.toInt64) - (s2.toInt64))), .second, .val (.long (((own_dl x).toInt64) - (s1.toInt64))), .second, .val (.long (((own_dl y).toInt64) - (s2.toInt64))), .second, .unset] [(.int (lcmpW (((own_dl x).toInt64) - (s1.toInt64)) (((own_dl y).toInt64) - (s2.toInt64))))])) target → Steps p.tables e below (s₁.setTop (mkF m 0 #[.val (.ref a1), .val (.ref a2), .unset, .unset, .unset, .unset, .unset, .unset, .unset, .unset, .unset, .unset, .unset] [])) target := by
      intro target kt
      refine pk12 _ ?_
      show Steps p.tables e below (T11.setTop (mkF m 89 #[.val (.ref a1), .val (.ref a2), .val (.long y), .second, .val (.long x), .second, .val (.long ((s1.toInt64) - (s2.toInt64))), .second, .val (.long (((own_dl x).toInt64) - (s1.toInt64))), .second, .val (.long (((own_dl y).toInt64) - (s2.toInt64))), .second, .unset] [(.int (lcmpW (((own_dl x).toInt64) - (s1.toInt64)) (((own_dl y).toInt64) - (s2.toInt64))))])) _
      refine XS.ifYes X11.here hx rfl (pc0 := 89) (pc' := 94) rfl (hb hby d38_89) rfl ((if0 _ _).trans (flt (hq1 : ¬ ((lcmpW (((own_dl x).toInt64) - (s1.toInt64)) (((own_dl y).toInt64) - (s2.toInt64))) < (0 : Int32)))).2.1) (by decide) (by decide) ?_
      refine XS.lload X11.here hx rfl (hb hby d38_94) rfl ?_
      refine XS.lload X11.here hx rfl (hb hby d38_96) rfl ?_
      refine XS.lcmp X11.here hx rfl (hb hby d38_98) rfl ?_
      exact kt
    by_cases hq2 : (0 : Int32) < (lcmpW (((own_dl x).toInt64) - (s1.toInt64)) (((own_dl y).toInt64) - (s2.toInt64)))
    · obtain ⟨fs, hr, hrun, hended, hW, hsame⟩ := X11.leave (v := some (.int (1 : Int32))) (fun h => by rw [Bd.returns] at h; cases h) Bd.notSynchronized
      refine ⟨_, _, pre0 _ ?_, hrun, hended, _, _, rfl, ?_, ⟨_, rfl⟩, hW, hsame.mono (by decide) (by decide)⟩
      · refine pk13 _ ?_
        show Steps p.tables e below (T11.setTop (mkF m 99 #[.val (.ref a1), .val (.ref a2), .val (.long y), .second, .val (.long x), .second, .val (.long ((s1.toInt64) - (s2.toInt64))), .second, .val (.long (((own_dl x).toInt64) - (s1.toInt64))), .second, .val (.long (((own_dl y).toInt64) - (s2.toInt64))), .second, .unset] [(.int (lcmpW (((own_dl x).toInt64) - (s1.toInt64)) (((own_dl y).toInt64) - (s2.toInt64))))])) _
        refine XS.ifNo X11.here hx rfl (hb hby d38_99) rfl ((if0 _ _).trans (tlt (hq2 : (0 : Int32) < (lcmpW (((own_dl x).toInt64) - (s1.toInt64)) (((own_dl y).toInt64) - (s2.toInt64))))).2.2.2) ?_
        refine XS.iconst X11.here hx rfl (hb hby d38_102) ?_
        show Steps p.tables e below (T11.setTop (mkF m 103 #[.val (.ref a1), .val (.ref a2), .val (.long y), .second, .val (.long x), .second, .val (.long ((s1.toInt64) - (s2.toInt64))), .second, .val (.long (((own_dl x).toInt64) - (s1.toInt64))), .second, .val (.long (((own_dl y).toInt64) - (s2.toInt64))), .second, .unset] [(.int (1 : Int32))])) _
        exact retI X11 hx Bd.returns (hb hby d38_103) hr
      · show QrmCm Z a1 a2 s1 x s2 y h0 n0 _ T11.heap _
        rw [e11]
        exact ⟨(1 : Int32), rfl, N8, ⟨fun z_ => absurd z_ (by decide), fun he => absurd hq2 (by rw [own_ae hxB hyB hx0 hy0 hs1 hs2 hlt he, lw_gt]; exact Int64.lt_irrefl)⟩, ⟨_, own_kk K5 K8, fun x_ z_ => (List.mem_append.mp z_).elim (fun u => ⟨Or.inl (w5 x_ u).1, (w5 x_ u).2⟩) (fun u => ⟨Or.inr (w8 x_ u).1, (w8 x_ u).2⟩), B1_, B8⟩⟩
    · obtain ⟨_, _, ⟨T14, L14, k14, n14⟩, -, X14, ⟨Lc14, hQ14, l14, y14, z14⟩, st14⟩ := Jvm.LawKit.callS X11 hx (y := m_13) hown (mvT hZ (own_w hw 95 rfl)) (mvT hZ (own_w hw 96 rfl)) (mvT hZ (own_w hw 9 rfl)) (mvT hZ (own_w hw 97 rfl)) (by decide) (backOf (W := 0) (rmMp l Z a0 hw [] x (s2 - s1)  T8.heap n0 Z10 J ((O0.keep K5 (fun x_ z_ => (w5 x_ z_).2)).keep K8 (fun x_ z_ => (w8 x_ z_).2)) (by omega) (by omega) (own_hbd (by omega) gp2 (by have := hxB.1; omega) hmb)) hZ (own_w hw 97 rfl) (own_w hw 9 rfl) (by decide) (by decide)) (g := (mkF m 135 #[.val (.ref a1), .val (.ref a2), .val (.long y), .second, .val (.long x), .second, .val (.long ((s1.toInt64) - (s2.toInt64))), .second, .val (.long (((own_dl x).toInt64) - (s1.toInt64))), .second, .val (.long (((own_dl y).toInt64) - (s2.toInt64))), .second, .unset] [(.int (s2 - s1)), (.long x)])) rfl (by rw [hml]; rfl) (argsL := [(.long x), (.int (s2 - s1))]) (rest := []) (lenOf pd_12 rfl) rfl (by show 2 * 0 + _ ≤ _; exact Nat.le_of_eq rfl) (hb hby d38_135) (fun _ _ => ⟨rfl, e11, (by decide : 0 + 0 ≤ _), (by decide : 0 + 0 ≤ _)⟩)
      dsimp only [Pt.U, Pt.locs, Pt.cells, Pt.slots] at X14 l14 y14 z14 st14 hQ14
      subst y14 z14
      obtain ⟨rfl, N14q, e14⟩ := hQ14
      have N14 : Fr n0 L14 := by rw [l14]; exact Fr.app N8 N14q
      obtain ⟨_, _, ⟨T15, L15, k15, n15⟩, -, X15, ⟨Lc15, hQ15, l15, y15, z15⟩, st15⟩ := Jvm.LawKit.callS X14 hx (y := m_18) hown (mvT hZ (own_w hw 186 rfl)) (mvT hZ (own_w hw 187 rfl)) (mvT hZ (own_w hw 9 rfl)) (mvT hZ (own_w hw 188 rfl)) (by decide) (backOf (W := 0) (rmLcm l Z a0 hw [] (x * (own_pw (s2 - s1))) y  T8.heap n0 Z10 ) hZ (own_w hw 188 rfl) (own_w hw 9 rfl) (by decide) (by decide)) (g := (mkF m 257 #[.val (.ref a1), .val (.ref a2), .val (.long y), .second, .val (.long (x * (own_pw (s2 - s1)))), .second, .val (.long ((s1.toInt64) - (s2.toInt64))), .second, .val (.long (((own_dl x).toInt64) - (s1.toInt64))), .second, .val (.long (((own_dl y).toInt64) - (s2.toInt64))), .second, .unset] [(.long y), (.long (x * (own_pw (s2 - s1))))])) rfl (by rw [hml]; rfl) (argsL := [(.long (x * (own_pw (s2 - s1)))), (.long y)]) (rest := []) (lenOf pd_0 rfl) rfl (by show 2 * 0 + _ ≤ _; exact Nat.le_of_eq rfl) (hb hby d38_257) (fun _ _ => ⟨rfl, e14, (by decide : 0 + 0 ≤ _), (by decide : 0 + 0 ≤ _)⟩)
      dsimp only [Pt.U, Pt.locs, Pt.cells, Pt.slots] at X15 l15 y15 z15 st15 hQ15
      subst y15 z15
      obtain ⟨rfl, N15q, e15⟩ := hQ15
      have N15 : Fr n0 L15 := by rw [l15]; exact Fr.app N14 N15q
      obtain ⟨fs, hr, hrun, hended, hW, hsame⟩ := X15.leave (v := some (.int (own_lc (own_abs (x * (own_pw (s2 - s1)))) (own_abs y)))) (fun h => by rw [Bd.returns] at h; cases h) Bd.notSynchronized
      refine ⟨_, _, pre0 _ ?_, hrun, hended, _, _, rfl, ?_, ⟨_, rfl⟩, hW, hsame.mono (by decide) (by decide)⟩
      · refine pk13 _ ?_
        show Steps p.tables e below (T11.setTop (mkF m 99 #[.val (.ref a1), .val (.ref a2), .val (.long y), .second, .val (.long x), .second, .val (.long ((s1.toInt64) - (s2.toInt64))), .second, .val (.long (((own_dl x).toInt64) - (s1.toInt64))), .second, .val (.long (((own_dl y).toInt64) - (s2.toInt64))), .second, .unset] [(.int (lcmpW (((own_dl x).toInt64) - (s1.toInt64)) (((own_dl y).toInt64) - (s2.toInt64))))])) _
        refine XS.ifYes X11.here hx rfl (pc0 := 99) (pc' := 104) rfl (hb hby d38_99) rfl ((if0 _ _).trans (flt (hq2 : ¬ ((0 : Int32) < (lcmpW (((own_dl x).toInt64) - (s1.toInt64)) (((own_dl y).toInt64) - (s2.toInt64)))))).2.2.2) (by decide) (by decide) ?_
        refine XS.lload X11.here hx rfl (hb hby d38_104) rfl ?_
        refine XS.lconst X11.here hx rfl (hb hby d38_106) ?_
        refine XS.lcmp X11.here hx rfl (hb hby d38_107) rfl ?_
        refine XS.ifNo X11.here hx rfl (hb hby d38_108) rfl ((if0 _ _).trans (tlt (sd2 : (lcmpW ((s1.toInt64) - (s2.toInt64)) (0 : Int64)) < (0 : Int32))).2.1) ?_
        refine XS.lload X11.here hx rfl (hb hby d38_111) rfl ?_
        refine X11.ldc2Long hx hown (mvT hZ (own_w hw 221 rfl)) (g := (mkF m 113 #[.val (.ref a1), .val (.ref a2), .val (.long y), .second, .val (.long x), .second, .val (.long ((s1.toInt64) - (s2.toInt64))), .second, .val (.long (((own_dl x).toInt64) - (s1.toInt64))), .second, .val (.long (((own_dl y).toInt64) - (s2.toInt64))), .second, .unset] [(.long ((s1.toInt64) - (s2.toInt64)))])) rfl (hb hby d38_113) _ ?_
        refine XS.lcmp X11.here hx rfl (hb hby d38_116) rfl ?_
        refine XS.ifNo X11.here hx rfl (hb hby d38_117) rfl ((if0 _ _).trans (tlt (sd3 : (0 : Int32) < (lcmpW ((s1.toInt64) - (s2.toInt64)) (-2147483648 : Int64)))).2.2.2) ?_
        refine XS.lload X11.here hx rfl (hb hby d38_120) rfl ?_
        refine X11.ldc2Long hx hown (mvT hZ (own_w hw 17 rfl)) (g := (mkF m 122 #[.val (.ref a1), .val (.ref a2), .val (.long y), .second, .val (.long x), .second, .val (.long ((s1.toInt64) - (s2.toInt64))), .second, .val (.long (((own_dl x).toInt64) - (s1.toInt64))), .second, .val (.long (((own_dl y).toInt64) - (s2.toInt64))), .second, .unset] [(.long x)])) rfl (hb hby d38_122) _ ?_
        refine XS.lcmp X11.here hx rfl (hb hby d38_125) rfl ?_
        refine XS.ifNo X11.here hx rfl (hb hby d38_126) rfl ((if0 _ _).trans (feq (own_hm hxB : ¬ ((lcmpW x (-9223372036854775808 : Int64)) = (0 : Int32)))).1) ?_
        refine XS.lload X11.here hx rfl (hb hby d38_129) rfl ?_
        refine XS.lload X11.here hx rfl (hb hby d38_131) rfl ?_
        refine XS.lneg X11.here hx rfl (hb hby d38_133) rfl ?_
        refine XS.l2i X11.here hx rfl (hb hby d38_134) rfl ?_
        show Steps p.tables e below (T11.setTop (mkF m 135 #[.val (.ref a1), .val (.ref a2), .val (.long y), .second, .val (.long x), .second, .val (.long ((s1.toInt64) - (s2.toInt64))), .second, .val (.long (((own_dl x).toInt64) - (s1.toInt64))), .second, .val (.long (((own_dl y).toInt64) - (s2.toInt64))), .second, .unset] [(.int ((-((s1.toInt64) - (s2.toInt64))).toInt32)), (.long x)])) _
        rw [(own_dn hs1 hs2).1]
        refine st14 _ ?_
        refine XT.dup2L X14.here hx rfl (hb hby d38_138) rfl ?_
        refine XS.lstore X14.here hx rfl (hb hby d38_139) rfl (l' := #[.val (.ref a1), .val (.ref a2), .val (.long y), .second, .val (.long (x * (own_pw (s2 - s1)))), .second, .val (.long ((s1.toInt64) - (s2.toInt64))), .second, .val (.long (((own_dl x).toInt64) - (s1.toInt64))), .second, .val (.long (((own_dl y).toInt64) - (s2.toInt64))), .second, .unset]) rfl ?_
        refine X14.ldc2Long hx hown (mvT hZ (own_w hw 17 rfl)) (g := (mkF m 141 #[.val (.ref a1), .val (.ref a2), .val (.long y), .second, .val (.long (x * (own_pw (s2 - s1)))), .second, .val (.long ((s1.toInt64) - (s2.toInt64))), .second, .val (.long (((own_dl x).toInt64) - (s1.toInt64))), .second, .val (.long (((own_dl y).toInt64) - (s2.toInt64))), .second, .unset] [(.long (x * (own_pw (s2 - s1))))])) rfl (hb hby d38_141) _ ?_
        refine XS.lcmp X14.here hx rfl (hb hby d38_144) rfl ?_
        refine XS.ifYes X14.here hx rfl (pc0 := 145) (pc' := 237) rfl (hb hby d38_145) rfl ((if0 _ _).trans (feq (own_hmM hmb : ¬ ((lcmpW (x * (own_pw (s2 - s1))) (-9223372036854775808 : Int64)) = (0 : Int32)))).2) (by decide) (by decide) ?_
        refine XS.lload X14.here hx rfl (hb hby d38_237) rfl ?_
        refine X14.ldc2Long hx hown (mvT hZ (own_w hw 17 rfl)) (g := (mkF m 239 #[.val (.ref a1), .val (.ref a2), .val (.long y), .second, .val (.long (x * (own_pw (s2 - s1)))), .second, .val (.long ((s1.toInt64) - (s2.toInt64))), .second, .val (.long (((own_dl x).toInt64) - (s1.toInt64))), .second, .val (.long (((own_dl y).toInt64) - (s2.toInt64))), .second, .unset] [(.long (x * (own_pw (s2 - s1))))])) rfl (hb hby d38_239) _ ?_
        refine XS.lcmp X14.here hx rfl (hb hby d38_242) rfl ?_
        refine XS.ifNo X14.here hx rfl (hb hby d38_243) rfl ((if0 _ _).trans (feq (own_hmM hmb : ¬ ((lcmpW (x * (own_pw (s2 - s1))) (-9223372036854775808 : Int64)) = (0 : Int32)))).1) ?_
        refine XS.lloadN X14.here hx rfl (hb hby d38_246) rfl ?_
        refine X14.ldc2Long hx hown (mvT hZ (own_w hw 17 rfl)) (g := (mkF m 247 #[.val (.ref a1), .val (.ref a2), .val (.long y), .second, .val (.long (x * (own_pw (s2 - s1)))), .second, .val (.long ((s1.toInt64) - (s2.toInt64))), .second, .val (.long (((own_dl x).toInt64) - (s1.toInt64))), .second, .val (.long (((own_dl y).toInt64) - (s2.toInt64))), .second, .unset] [(.long y)])) rfl (hb hby d38_247) _ ?_
        refine XS.lcmp X14.here hx rfl (hb hby d38_250) rfl ?_
        refine XS.ifNo X14.here hx rfl (hb hby d38_251) rfl ((if0 _ _).trans (feq (own_hm hyB : ¬ ((lcmpW y (-9223372036854775808 : Int64)) = (0 : Int32)))).1) ?_
        refine XS.lload X14.here hx rfl (hb hby d38_254) rfl ?_
        refine XS.lloadN X14.here hx rfl (hb hby d38_256) rfl ?_
        refine st15 _ ?_
        refine XS.goto X15.here hx rfl (pc0 := 260) (pc' := 264) rfl (hb hby d38_260) (by decide) (by decide) ?_
        show Steps p.tables e below (T15.setTop (mkF m 264 #[.val (.ref a1), .val (.ref a2), .val (.long y), .second, .val (.long (x * (own_pw (s2 - s1)))), .second, .val (.long ((s1.toInt64) - (s2.toInt64))), .second, .val (.long (((own_dl x).toInt64) - (s1.toInt64))), .second, .val (.long (((own_dl y).toInt64) - (s2.toInt64))), .second, .unset] [(.int (own_lc (own_abs (x * (own_pw (s2 - s1)))) (own_abs y)))])) _
        exact retI X15 hx Bd.returns (hb hby d38_264) hr
      · show QrmCm Z a1 a2 s1 x s2 y h0 n0 _ T15.heap _
        rw [e15]
        exact ⟨(own_lc (own_abs (x * (own_pw (s2 - s1)))) (own_abs y)), rfl, N15, by rw [own_lc0, own_absq (by rw [own_mul hmb]; have := hmb.1; omega) (by have := hyB.1; omega), own_mul hmb], ⟨_, own_kk K5 K8, fun x_ z_ => (List.mem_append.mp z_).elim (fun u => ⟨Or.inl (w5 x_ u).1, (w5 x_ u).2⟩) (fun u => ⟨Or.inr (w8 x_ u).1, (w8 x_ u).2⟩), B1_, B8⟩⟩
theorem own_neg0 (c : Int32) : -c = 0 ↔ c = 0 := by
  have a := c_ineg c; have b := Int32.toInt_lt c; have b' := Int32.le_toInt c; have d := Int32.toInt_lt (-c); have d' := Int32.le_toInt (-c)
  rw [← Int32.toInt_inj, ← Int32.toInt_inj, show (0 : Int32).toInt = 0 from rfl]
  omega
theorem own_sgq {x y : Int64} {k : Int32} (hx : own_HB x) (hy : own_HB y) (h0 : 0 ≤ k.toInt) (h1 : k.toInt ≤ 7) : (x.toInt * (own_pw k).toInt = y.toInt → own_sg x = own_sg y) ∧ (own_sg x = own_sg y → ((x.toInt * (own_pw k).toInt).natAbs = y.toInt.natAbs ↔ x.toInt * (own_pw k).toInt = y.toInt)) := by
  obtain ⟨a1, a2, a3⟩ := own_sgv hx; obtain ⟨b1, b2, b3⟩ := own_sgv hy
  have m : (x.toInt < 0 → x.toInt * (own_pw k).toInt < 0) ∧ (x.toInt = 0 → x.toInt * (own_pw k).toInt = 0) ∧ (0 < x.toInt → 0 < x.toInt * (own_pw k).toInt) := by
    rcases own_pwv h0 h1 with ⟨-, q⟩ | ⟨-, q⟩ | ⟨-, q⟩ | ⟨-, q⟩ | ⟨-, q⟩ | ⟨-, q⟩ | ⟨-, q⟩ | ⟨-, q⟩ <;> rw [q] <;> omega
  obtain ⟨m1, m2, m3⟩ := m
  have n1 : ¬ ((-1 : Int32) = 0) := by decide
  have n2 : ¬ ((-1 : Int32) = 1) := by decide
  have n3 : ¬ ((0 : Int32) = 1) := by decide
  rcases Int.lt_trichotomy x.toInt 0 with l | l | l <;> rcases Int.lt_trichotomy y.toInt 0 with r | r | r
  · rw [a1 l, b1 r]; exact ⟨fun _ => rfl, fun _ => by have := m1 l; omega⟩
  · rw [a1 l, b2 r]; exact ⟨fun e => by have := m1 l; omega, fun e => absurd e n1⟩
  · rw [a1 l, b3 r]; exact ⟨fun e => by have := m1 l; omega, fun e => absurd e n2⟩
  · rw [a2 l, b1 r]; exact ⟨fun e => by have := m2 l; omega, fun e => absurd e.symm n1⟩
  · rw [a2 l, b2 r]; exact ⟨fun _ => rfl, fun _ => by have := m2 l; omega⟩
  · rw [a2 l, b3 r]; exact ⟨fun e => by have := m2 l; omega, fun e => absurd e n3⟩
  · rw [a3 l, b1 r]; exact ⟨fun e => by have := m3 l; omega, fun e => absurd e.symm n2⟩
  · rw [a3 l, b2 r]; exact ⟨fun e => by have := m3 l; omega, fun e => absurd e.symm n3⟩
  · rw [a3 l, b3 r]; exact ⟨fun _ => rfl, fun _ => by have := m3 l; omega⟩
theorem d37_0 : decode c_20 0 = .ok (.aload_n 0, 1) := by decide +kernel
theorem d37_1 : decode c_20 1 = .ok (.getfield 17, 3) := by decide +kernel
theorem d37_4 : decode c_20 4 = .ok (.aload_n 1, 1) := by decide +kernel
theorem d37_5 : decode c_20 5 = .ok (.getfield 17, 3) := by decide +kernel
theorem d37_8 : decode c_20 8 = .ok (.if_icmp .ne 55, 3) := by decide +kernel
theorem d37_63 : decode c_20 63 = .ok (.aload_n 0, 1) := by decide +kernel
theorem d37_64 : decode c_20 64 = .ok (.invokevirtual 270, 3) := by decide +kernel
theorem d37_67 : decode c_20 67 = .ok (.istore_n 2, 1) := by decide +kernel
theorem d37_68 : decode c_20 68 = .ok (.aload_n 1, 1) := by decide +kernel
theorem d37_69 : decode c_20 69 = .ok (.invokevirtual 270, 3) := by decide +kernel
theorem d37_72 : decode c_20 72 = .ok (.istore_n 3, 1) := by decide +kernel
theorem d37_73 : decode c_20 73 = .ok (.iload_n 2, 1) := by decide +kernel
theorem d37_74 : decode c_20 74 = .ok (.iload_n 3, 1) := by decide +kernel
theorem d37_75 : decode c_20 75 = .ok (.if_icmp .eq 14, 3) := by decide +kernel
theorem d37_89 : decode c_20 89 = .ok (.iload_n 2, 1) := by decide +kernel
theorem d37_90 : decode c_20 90 = .ok (.ifCond .ne 5, 3) := by decide +kernel
theorem d37_93 : decode c_20 93 = .ok (.iconst 0, 1) := by decide +kernel
theorem d37_94 : decode c_20 94 = .ok (.ireturn, 1) := by decide +kernel
theorem d37_95 : decode c_20 95 = .ok (.aload_n 0, 1) := by decide +kernel
theorem d37_96 : decode c_20 96 = .ok (.aload_n 1, 1) := by decide +kernel
theorem d37_97 : decode c_20 97 = .ok (.invokevirtual 436, 3) := by decide +kernel
theorem pd_19 : parseMethodDescriptor "(Ljava/math/BigDecimal;)I" = some ⟨[(.object "java/math/BigDecimal")], some .int⟩ := by decide +kernel
theorem d37_100 : decode c_20 100 = .ok (.istore 4, 2) := by decide +kernel
theorem d37_102 : decode c_20 102 = .ok (.iload_n 2, 1) := by decide +kernel
theorem d37_103 : decode c_20 103 = .ok (.ifCond .le 8, 3) := by decide +kernel
theorem d37_106 : decode c_20 106 = .ok (.iload 4, 2) := by decide +kernel
theorem d37_108 : decode c_20 108 = .ok (.goto 6, 3) := by decide +kernel
theorem d37_114 : decode c_20 114 = .ok (.ireturn, 1) := by decide +kernel
theorem d37_111 : decode c_20 111 = .ok (.iload 4, 2) := by decide +kernel
theorem d37_113 : decode c_20 113 = .ok (.ineg, 1) := by decide +kernel
theorem d37_78 : decode c_20 78 = .ok (.iload_n 2, 1) := by decide +kernel
theorem d37_79 : decode c_20 79 = .ok (.iload_n 3, 1) := by decide +kernel
theorem d37_80 : decode c_20 80 = .ok (.if_icmp .le 7, 3) := by decide +kernel
theorem d37_83 : decode c_20 83 = .ok (.iconst 1, 1) := by decide +kernel
theorem d37_84 : decode c_20 84 = .ok (.goto 4, 3) := by decide +kernel
theorem d37_88 : decode c_20 88 = .ok (.ireturn, 1) := by decide +kernel
theorem d37_87 : decode c_20 87 = .ok (.iconst (-1), 1) := by decide +kernel
theorem ef_rmCt (m : MethodId) (x0 : Addr) (x1 : Addr) : entryFrame m #[(.ref x0), (.ref x1)] 6 = mkF m 0 #[.val (.ref x0), .val (.ref x1), .unset, .unset, .unset, .unset] [] := by first | (simp [entryFrame, mkF, argsToLocals, Value.category]; done) | rfl
def QrmCt (Z : State) (a1 : Addr) (a2 : Addr) (s1 : Int32) (x : Int64) (s2 : Int32) (y : Int64) (h0 : Heap) (n0 : Nat) (v : Option Value) (h : Heap) (L : List Loc) : Prop := ∃ c : Int32, v = some (.int c) ∧ Fr n0 L ∧ (c = 0 ↔ x.toInt * (own_pw (s2 - s1)).toInt = y.toInt) ∧ ∃ ws, Keep h0 h ws ∧ (∀ x' ∈ ws, (x' = a1 ∨ x' = a2) ∧ n0 ≤ x') ∧ own_BD Z h a1 s1 x ∧ own_BD Z h a2 s2 y
theorem rmCt (l : Launch) (Z : State) (a0 : Array Value) (hw : ∀ d ∈ tables_1, d.before a0 Z = true) (ws : List Jvm.Cond) (a1 : Addr) (a2 : Addr) (s1 : Int32) (x : Int64) (s2 : Int32) (y : Int64) (h0 : Heap) (n0 : Nat) (Z0 : n0 ≤ h0.size) (J : own_J Z) (O0 : Old Z n0 h0) (B1 : own_BD Z h0 a1 s1 x) (B2 : own_BD Z h0 a2 s2 y) (hne : a1 ≠ a2) (hxB : own_HB x) (hyB : own_HB y) (hs1 : own_S8 s1) (hs2 : own_S8 s2) (hlt : s1.toInt < s2.toInt) (hmb : own_MB x (s2 - s1)) (P1 : ¬ (x = 0) → own_PS Z h0 n0 a1 x) (P2 : ¬ (y = 0) → own_PS Z h0 n0 a2 y) :
    MetFree l m_29 (head1 (Jvm.Cond.code m_29 jdk_17_method_70_code 6 (some .int) :: ws) ({ frames := 5, cells := 0, slots := 0, locals := 83 } : Room)) (fun a U => a = #[(.ref a1), (.ref a2)] ∧ Z.Warmed39 U.vm ∧ U.heap = h0) (fun _ _ _ _ _ => True) (fun _ U o U' => ∃ v L, o = .returned v ∧ QrmCt Z a1 a2 s1 x s2 y h0 n0 v U'.heap L ∧ FrameEnd U o U' L ({ frames := 5, cells := 0, slots := 0, locals := 83 } : Room).cells ({ frames := 5, cells := 0, slots := 0, locals := 83 } : Room).slots) := by
  refine MetFree.of_bodySF (plainFor_of_name pn_java_math_BigDecimal) hisR ?_
  intro p e s m args below meth c s₁ Bd hml0 hP hK
  obtain ⟨rfl, hZ, hh⟩ := hP
  have hx := Bd.exec
  have hby := Bd.bytes
  have hml : c.maxLocals = 6 := hml0
  have hown : s.vm.findClass "java/math/BigDecimal" = some m.cls := findClass_of_methodNamed Bd.named
  have hnm := (name_of_methodNamed Bd.named Bd.method).1
  have X0 : Stand p l e ({ frames := 5, cells := 0, slots := 0, locals := 83 } : Room) s m #[(.ref a1), (.ref a2)] below meth c s₁ [] 0 0 := Stand.of_body Bd
  have e0 : s₁.heap = h0 := by rw [← hh, Bd.state]; rfl
  have N0 := Fr.nil n0
  have pre0 : ∀ t, Steps p.tables e below (s₁.setTop (mkF m 0 #[.val (.ref a1), .val (.ref a2), .unset, .unset, .unset, .unset] [])) t → Steps p.tables e below (s₁.setTop (entryFrame m #[(.ref a1), (.ref a2)] 6)) t := fun t k => castTop (ef_rmCt m a1 a2) k
  obtain ⟨gp1, gp2, gp3, gp4, gp5⟩ := own_gap hs2 hs1 hlt
  obtain ⟨sq1, sq2⟩ := own_sgq (k := s2 - s1) hxB hyB (by omega) gp2
  obtain ⟨T1, X1, e1, st1⟩ := getF X0 hx hZ hown (host := "") (Or.inl (own_w hw 31 rfl)) Via.refl e0 B1.2.1 (g := (mkF m 1 #[.val (.ref a1), .val (.ref a2), .unset, .unset, .unset, .unset] [(.ref a1)])) rfl rfl (hb hby d37_1)
  obtain ⟨T2, X2, e2, st2⟩ := getF X1 hx hZ hown (host := "") (Or.inl (own_w hw 31 rfl)) Via.refl e1 B2.2.1 (g := (mkF m 5 #[.val (.ref a1), .val (.ref a2), .unset, .unset, .unset, .unset] [(.ref a2), (.int s1)])) rfl rfl (hb hby d37_5)
  obtain ⟨cq3, kq3, q3a, q3b, q3c⟩ := isOf hZ e2 B1.1
  obtain ⟨_, _, ⟨T3, L3, k3, n3⟩, -, X3, ⟨Lc3, hQ3, l3, y3, z3⟩, st3⟩ := X2.virtualBack hx (y := m_5) (z := m_5) hown (mvT hZ (own_w hw 162 rfl)) (mvT hZ (own_w hw 163 rfl)) (notFace_of_selects (args := #[]) (mvT hZ (own_w hw 165 rfl))) (mvT hZ (own_w hw 165 rfl)) (mvT hZ (own_w hw 164 rfl)) (by decide) (backOf (W := 0) (rmSig l Z a0 hw [] a1 s1 x h0 n0 Z0 B1 (own_hm hxB)) hZ (own_w hw 166 rfl) (own_w hw 9 rfl) (by decide) (by decide)) q3a q3c (g := (mkF m 64 #[.val (.ref a1), .val (.ref a2), .unset, .unset, .unset, .unset] [(.ref a1)])) rfl (by rw [hml]; rfl) (Steps.refl _) (argsL := []) (rest := []) (lenOf pd_15 rfl) rfl (by show 2 * 0 + _ ≤ _; exact Nat.le_of_eq rfl) (hb hby d37_64) (fun _ _ => ⟨rfl, e2, (by decide : 0 + 0 ≤ _), (by decide : 0 + 0 ≤ _)⟩)
  dsimp only [Pt.U, Pt.locs, Pt.cells, Pt.slots] at X3 l3 y3 z3 st3 hQ3
  subst y3 z3
  obtain ⟨rfl, N3q, e3⟩ := hQ3
  have N3 : Fr n0 L3 := by rw [l3]; exact Fr.app N0 N3q
  obtain ⟨cq4, kq4, q4a, q4b, q4c⟩ := isOf hZ e3 B2.1
  obtain ⟨_, _, ⟨T4, L4, k4, n4⟩, -, X4, ⟨Lc4, hQ4, l4, y4, z4⟩, st4⟩ := X3.virtualBack hx (y := m_5) (z := m_5) hown (mvT hZ (own_w hw 162 rfl)) (mvT hZ (own_w hw 163 rfl)) (notFace_of_selects (args := #[]) (mvT hZ (own_w hw 165 rfl))) (mvT hZ (own_w hw 165 rfl)) (mvT hZ (own_w hw 164 rfl)) (by decide) (backOf (W := 0) (rmSig l Z a0 hw [] a2 s2 y h0 n0 Z0 B2 (own_hm hyB)) hZ (own_w hw 166 rfl) (own_w hw 9 rfl) (by decide) (by decide)) q4a q4c (g := (mkF m 69 #[.val (.ref a1), .val (.ref a2), .val (.int (own_sg x)), .unset, .unset, .unset] [(.ref a2)])) rfl (by rw [hml]; rfl) (Steps.refl _) (argsL := []) (rest := []) (lenOf pd_15 rfl) rfl (by show 2 * 0 + _ ≤ _; exact Nat.le_of_eq rfl) (hb hby d37_69) (fun _ _ => ⟨rfl, e3, (by decide : 0 + 0 ≤ _), (by decide : 0 + 0 ≤ _)⟩)
  dsimp only [Pt.U, Pt.locs, Pt.cells, Pt.slots] at X4 l4 y4 z4 st4 hQ4
  subst y4 z4
  obtain ⟨rfl, N4q, e4⟩ := hQ4
  have N4 : Fr n0 L4 := by rw [l4]; exact Fr.app N3 N4q
  have pk5 : ∀ target, Steps p.tables e below (T4.setTop (mkF m 75 #[.val (.ref a1), .val (.ref a2), .val (.int (own_sg x)), .val (.int (own_sg y)), .unset, .unset] [(.int (own_sg y)), (.int (own_sg x))])) target → Steps p.tables e below (s₁.setTop (mkF m 0 #[.val (.ref a1), .val (.ref a2), .unset, .unset, .unset, .unset] [])) target := by
    intro target kt
    show Steps p.tables e below (s₁.setTop (mkF m 0 #[.val (.ref a1), .val (.ref a2), .unset, .unset, .unset, .unset] [])) _
    refine XS.aloadN X0.here hx rfl (hb hby d37_0) rfl rfl ?_
    refine st1 _ ?_
    refine XS.aloadN X1.here hx rfl (hb hby d37_4) rfl rfl ?_
    refine st2 _ ?_
    refine XS.icmpYes X2.here hx rfl (pc0 := 8) (pc' := 63) rfl (hb hby d37_8) rfl (feq (gp3 : ¬ (s1 = s2))).2 (by decide) (by decide) ?_
    refine XS.aloadN X2.here hx rfl (hb hby d37_63) rfl rfl ?_
    refine st3.trans ?_
    refine XS.istoreN X3.here hx rfl (hb hby d37_67) rfl (l' := #[.val (.ref a1), .val (.ref a2), .val (.int (own_sg x)), .unset, .unset, .unset]) rfl ?_
    refine XS.aloadN X3.here hx rfl (hb hby d37_68) rfl rfl ?_
    refine st4.trans ?_
    refine XS.istoreN X4.here hx rfl (hb hby d37_72) rfl (l' := #[.val (.ref a1), .val (.ref a2), .val (.int (own_sg x)), .val (.int (own_sg y)), .unset, .unset]) rfl ?_
    refine XS.iloadN X4.here hx rfl (hb hby d37_73) rfl ?_
    refine XS.iloadN X4.here hx rfl (hb hby d37_74) rfl ?_
    exact kt
  by_cases hq1 : (own_sg x) = (own_sg y)
  · have pk6 : ∀ target, Steps p.tables e below (T4.setTop (mkF m 90 #[.val (.ref a1), .val (.ref a2), .val (.int (own_sg x)), .val (.int (own_sg y)), .unset, .unset] [(.int (own_sg x))])) target → Steps p.tables e below (s₁.setTop (mkF m 0 #[.val (.ref a1), .val (.ref a2), .unset, .unset, .unset, .unset] [])) target := by
      intro target kt
      refine pk5 _ ?_
      show Steps p.tables e below (T4.setTop (mkF m 75 #[.val (.ref a1), .val (.ref a2), .val (.int (own_sg x)), .val (.int (own_sg y)), .unset, .unset] [(.int (own_sg y)), (.int (own_sg x))])) _
      refine XS.icmpYes X4.here hx rfl (pc0 := 75) (pc' := 89) rfl (hb hby d37_75) rfl (teq (hq1 : (own_sg x) = (own_sg y))).1 (by decide) (by decide) ?_
      refine XS.iloadN X4.here hx rfl (hb hby d37_89) rfl ?_
      exact kt
    by_cases hq2 : (own_sg x) = (0 : Int32)
    · obtain ⟨fs, hr, hrun, hended, hW, hsame⟩ := X4.leave (v := some (.int (0 : Int32))) (fun h => by rw [Bd.returns] at h; cases h) Bd.notSynchronized
      refine ⟨_, _, pre0 _ ?_, hrun, hended, _, _, rfl, ?_, ⟨_, rfl⟩, hW, hsame.mono (by decide) (by decide)⟩
      · refine pk6 _ ?_
        show Steps p.tables e below (T4.setTop (mkF m 90 #[.val (.ref a1), .val (.ref a2), .val (.int (own_sg x)), .val (.int (own_sg y)), .unset, .unset] [(.int (own_sg x))])) _
        refine XS.ifNo X4.here hx rfl (hb hby d37_90) rfl ((if0 _ _).trans (teq (hq2 : (own_sg x) = (0 : Int32))).2) ?_
        refine XS.iconst X4.here hx rfl (hb hby d37_93) ?_
        show Steps p.tables e below (T4.setTop (mkF m 94 #[.val (.ref a1), .val (.ref a2), .val (.int (own_sg x)), .val (.int (own_sg y)), .unset, .unset] [(.int (0 : Int32))])) _
        exact retI X4 hx Bd.returns (hb hby d37_94) hr
      · show QrmCt Z a1 a2 s1 x s2 y h0 n0 _ T4.heap _
        rw [e4]
        exact ⟨(0 : Int32), rfl, N4, ⟨fun _ => (sq2 hq1).mp (by rw [(own_sg0 hxB).mp hq2, (own_sg0 hyB).mp (hq1 ▸ hq2)]; simp), fun _ => rfl⟩, ⟨[], Keep.refl _ _, all0, B1, B2⟩⟩
    · have hx0 : ¬ (x = 0) := fun q => hq2 ((own_sg0 hxB).mpr q)
      have hy0 : ¬ (y = 0) := fun q => hq2 (hq1.trans ((own_sg0 hyB).mpr q))
      obtain ⟨cq7, q7a, q7b⟩ := B1.1.cell
      obtain ⟨_, _, ⟨T7, L7, k7, n7⟩, -, X7, ⟨Lc7, hQ7, l7, y7, z7⟩, st7⟩ := X4.privateBack hx (y := m_40) hown (mvT hZ (own_w hw 200 rfl)) (mvT hZ (own_w hw 201 rfl)) (mvT hZ (own_w hw 203 rfl)) (Cond.privateMethod_at (mvP hZ (own_w hw 202 rfl) (args := #[]))) (mvT hZ (own_w hw 204 rfl)) (by decide) (backOf (W := 0) (rmCm l Z a0 hw [] a1 a2 s1 x s2 y h0 n0 Z0 J O0 B1 B2 hne hxB hyB hs1 hs2 hlt hmb (P1 hx0) (P2 hy0) hx0 hy0) hZ (own_w hw 204 rfl) (own_w hw 9 rfl) (by decide) (by decide)) (g := (mkF m 97 #[.val (.ref a1), .val (.ref a2), .val (.int (own_sg x)), .val (.int (own_sg y)), .unset, .unset] [(.ref a2), (.ref a1)])) rfl (by rw [hml]; rfl) (Steps.refl _) (a := a1) (by rw [e4]; exact q7a) q7b (argsL := [(.ref a2)]) (rest := []) (lenOf pd_19 rfl) rfl (by show 2 * 0 + _ ≤ _; exact Nat.le_of_eq rfl) (hb hby d37_97) (fun _ _ => ⟨rfl, e4, (by decide : 0 + 0 ≤ _), (by decide : 0 + 0 ≤ _)⟩)
      dsimp only [Pt.U, Pt.locs, Pt.cells, Pt.slots] at X7 l7 y7 z7 st7 hQ7
      subst y7 z7
      obtain ⟨c7, rfl, N7q, i7, ws7, K7, w7, Ba7, Bb7⟩ := hQ7
      have N7 : Fr n0 L7 := by rw [l7]; exact Fr.app N4 N7q
      have Z8 : n0 ≤ T7.heap.size := Nat.le_trans Z0 K7.1
      have pk9 : ∀ target, Steps p.tables e below (T7.setTop (mkF m 103 #[.val (.ref a1), .val (.ref a2), .val (.int (own_sg x)), .val (.int (own_sg y)), .val (.int c7), .unset] [(.int (own_sg x))])) target → Steps p.tables e below (s₁.setTop (mkF m 0 #[.val (.ref a1), .val (.ref a2), .unset, .unset, .unset, .unset] [])) target := by
        intro target kt
        refine pk6 _ ?_
        show Steps p.tables e below (T4.setTop (mkF m 90 #[.val (.ref a1), .val (.ref a2), .val (.int (own_sg x)), .val (.int (own_sg y)), .unset, .unset] [(.int (own_sg x))])) _
        refine XS.ifYes X4.here hx rfl (pc0 := 90) (pc' := 95) rfl (hb hby d37_90) rfl ((if0 _ _).trans (feq (hq2 : ¬ ((own_sg x) = (0 : Int32)))).2) (by decide) (by decide) ?_
        refine XS.aloadN X4.here hx rfl (hb hby d37_95) rfl rfl ?_
        refine XS.aloadN X4.here hx rfl (hb hby d37_96) rfl rfl ?_
        refine st7.trans ?_
        refine XS.istore X7.here hx rfl (hb hby d37_100) rfl (l' := #[.val (.ref a1), .val (.ref a2), .val (.int (own_sg x)), .val (.int (own_sg y)), .val (.int c7), .unset]) rfl ?_
        refine XS.iloadN X7.here hx rfl (hb hby d37_102) rfl ?_
        exact kt
      by_cases hq3 : (0 : Int32) < (own_sg x)
      · obtain ⟨fs, hr, hrun, hended, hW, hsame⟩ := X7.leave (v := some (.int c7)) (fun h => by rw [Bd.returns] at h; cases h) Bd.notSynchronized
        refine ⟨_, _, pre0 _ ?_, hrun, hended, _, _, rfl, ?_, ⟨_, rfl⟩, hW, hsame.mono (by decide) (by decide)⟩
        · refine pk9 _ ?_
          show Steps p.tables e below (T7.setTop (mkF m 103 #[.val (.ref a1), .val (.ref a2), .val (.int (own_sg x)), .val (.int (own_sg y)), .val (.int c7), .unset] [(.int (own_sg x))])) _
          refine XS.ifNo X7.here hx rfl (hb hby d37_103) rfl ((if0 _ _).trans (tlt (hq3 : (0 : Int32) < (own_sg x))).2.2.2) ?_
          refine XS.iload X7.here hx rfl (hb hby d37_106) rfl ?_
          refine XS.goto X7.here hx rfl (pc0 := 108) (pc' := 114) rfl (hb hby d37_108) (by decide) (by decide) ?_
          show Steps p.tables e below (T7.setTop (mkF m 114 #[.val (.ref a1), .val (.ref a2), .val (.int (own_sg x)), .val (.int (own_sg y)), .val (.int c7), .unset] [(.int c7)])) _
          exact retI X7 hx Bd.returns (hb hby d37_114) hr
        · show QrmCt Z a1 a2 s1 x s2 y h0 n0 _ T7.heap _
          exact ⟨c7, rfl, N7, i7.trans (sq2 hq1), ⟨_, K7, w7, Ba7, Bb7⟩⟩
      · obtain ⟨fs, hr, hrun, hended, hW, hsame⟩ := X7.leave (v := some (.int (-c7))) (fun h => by rw [Bd.returns] at h; cases h) Bd.notSynchronized
        refine ⟨_, _, pre0 _ ?_, hrun, hended, _, _, rfl, ?_, ⟨_, rfl⟩, hW, hsame.mono (by decide) (by decide)⟩
        · refine pk9 _ ?_
          show Steps p.tables e below (T7.setTop (mkF m 103 #[.val (.ref a1), .val (.ref a2), .val (.int (own_sg x)), .val (.int (own_sg y)), .val (.int c7), .unset] [(.int (own_sg x))])) _
          refine XS.ifYes X7.here hx rfl (pc0 := 103) (pc' := 111) rfl (hb hby d37_103) rfl ((if0 _ _).trans (flt (hq3 : ¬ ((0 : Int32) < (own_sg x)))).2.2.2) (by decide) (by decide) ?_
          refine XS.iload X7.here hx rfl (hb hby d37_111) rfl ?_
          refine XS.ineg X7.here hx rfl (hb hby d37_113) rfl ?_
          show Steps p.tables e below (T7.setTop (mkF m 114 #[.val (.ref a1), .val (.ref a2), .val (.int (own_sg x)), .val (.int (own_sg y)), .val (.int c7), .unset] [(.int (-c7))])) _
          exact retI X7 hx Bd.returns (hb hby d37_114) hr
        · show QrmCt Z a1 a2 s1 x s2 y h0 n0 _ T7.heap _
          exact ⟨(-c7), rfl, N7, (own_neg0 c7).trans (i7.trans (sq2 hq1)), ⟨_, K7, w7, Ba7, Bb7⟩⟩
  · have pk6 : ∀ target, Steps p.tables e below (T4.setTop (mkF m 80 #[.val (.ref a1), .val (.ref a2), .val (.int (own_sg x)), .val (.int (own_sg y)), .unset, .unset] [(.int (own_sg y)), (.int (own_sg x))])) target → Steps p.tables e below (s₁.setTop (mkF m 0 #[.val (.ref a1), .val (.ref a2), .unset, .unset, .unset, .unset] [])) target := by
      intro target kt
      refine pk5 _ ?_
      show Steps p.tables e below (T4.setTop (mkF m 75 #[.val (.ref a1), .val (.ref a2), .val (.int (own_sg x)), .val (.int (own_sg y)), .unset, .unset] [(.int (own_sg y)), (.int (own_sg x))])) _
      refine XS.icmpNo X4.here hx rfl (hb hby d37_75) rfl (feq (hq1 : ¬ ((own_sg x) = (own_sg y)))).1 ?_
      refine XS.iloadN X4.here hx rfl (hb hby d37_78) rfl ?_
      refine XS.iloadN X4.here hx rfl (hb hby d37_79) rfl ?_
      exact kt
    by_cases hq2 : (own_sg y) < (own_sg x)
    · obtain ⟨fs, hr, hrun, hended, hW, hsame⟩ := X4.leave (v := some (.int (1 : Int32))) (fun h => by rw [Bd.returns] at h; cases h) Bd.notSynchronized
      refine ⟨_, _, pre0 _ ?_, hrun, hended, _, _, rfl, ?_, ⟨_, rfl⟩, hW, hsame.mono (by decide) (by decide)⟩
      · refine pk6 _ ?_
        show Steps p.tables e below (T4.setTop (mkF m 80 #[.val (.ref a1), .val (.ref a2), .val (.int (own_sg x)), .val (.int (own_sg y)), .unset, .unset] [(.int (own_sg y)), (.int (own_sg x))])) _
        refine XS.icmpNo X4.here hx rfl (hb hby d37_80) rfl (tlt (hq2 : (own_sg y) < (own_sg x))).2.2.2 ?_
        refine XS.iconst X4.here hx rfl (hb hby d37_83) ?_
        refine XS.goto X4.here hx rfl (pc0 := 84) (pc' := 88) rfl (hb hby d37_84) (by decide) (by decide) ?_
        show Steps p.tables e below (T4.setTop (mkF m 88 #[.val (.ref a1), .val (.ref a2), .val (.int (own_sg x)), .val (.int (own_sg y)), .unset, .unset] [(.int (1 : Int32))])) _
        exact retI X4 hx Bd.returns (hb hby d37_88) hr
      · show QrmCt Z a1 a2 s1 x s2 y h0 n0 _ T4.heap _
        rw [e4]
        exact ⟨(1 : Int32), rfl, N4, ⟨fun z_ => absurd z_ (by decide), fun he => absurd (sq1 he) hq1⟩, ⟨[], Keep.refl _ _, all0, B1, B2⟩⟩
    · obtain ⟨fs, hr, hrun, hended, hW, hsame⟩ := X4.leave (v := some (.int (-1 : Int32))) (fun h => by rw [Bd.returns] at h; cases h) Bd.notSynchronized
      refine ⟨_, _, pre0 _ ?_, hrun, hended, _, _, rfl, ?_, ⟨_, rfl⟩, hW, hsame.mono (by decide) (by decide)⟩
      · refine pk6 _ ?_
        show Steps p.tables e below (T4.setTop (mkF m 80 #[.val (.ref a1), .val (.ref a2), .val (.int (own_sg x)), .val (.int (own_sg y)), .unset, .unset] [(.int (own_sg y)), (.int (own_sg x))])) _
        refine XS.icmpYes X4.here hx rfl (pc0 := 80) (pc' := 87) rfl (hb hby d37_80) rfl (flt (hq2 : ¬ ((own_sg y) < (own_sg x)))).2.2.2 (by decide) (by decide) ?_
        refine XS.iconst X4.here hx rfl (hb hby d37_87) ?_
        show Steps p.tables e below (T4.setTop (mkF m 88 #[.val (.ref a1), .val (.ref a2), .val (.int (own_sg x)), .val (.int (own_sg y)), .unset, .unset] [(.int (-1 : Int32))])) _
        exact retI X4 hx Bd.returns (hb hby d37_88) hr
      · show QrmCt Z a1 a2 s1 x s2 y h0 n0 _ T4.heap _
        rw [e4]
        exact ⟨(-1 : Int32), rfl, N4, ⟨fun z_ => absurd z_ (by decide), fun he => absurd (sq1 he) hq1⟩, ⟨[], Keep.refl _ _, all0, B1, B2⟩⟩
def own_cz (z : Int64) (s p : Int32) : Int64 := if p < s then (if own_rm z (own_pw (s - p)) = 0 then z else own_dv z (own_pw (s - p))) else z
def own_cs (z : Int64) (s p : Int32) : Int32 := if p < s then (if own_rm z (own_pw (s - p)) = 0 then s else p) else s
/-- the rounded quotient times the divisor stays within a long -/
theorem own_dmb {z : Int64} {s p : Int32} (hz : own_HB z) (hD : own_D (own_pw (s - p))) (h0 : 0 ≤ (s - p).toInt) (h1 : (s - p).toInt ≤ 7) : own_MB (own_dv z (own_pw (s - p))) (s - p) := by
  have hd := own_dvB hz hD
  obtain ⟨a, b⟩ := hd
  obtain ⟨q, r, e1, e2, e3, pp, nn⟩ := own_qri (z := z) hD
  obtain ⟨f1, -, -⟩ := own_q1 hz hD
  obtain ⟨t1, t2⟩ := own_qsv z
  obtain ⟨z1, z2⟩ := hz
  obtain ⟨D1, D2⟩ := hD
  have v : (own_dv z (own_pw (s - p))).toInt = q ∨ (own_dv z (own_pw (s - p))).toInt = q + 1 ∨ (own_dv z (own_pw (s - p))).toInt = q - 1 := by
    unfold own_dv
    split
    · exact Or.inl e1
    · split
      · exact Or.inl e1
      · rw [f1, e1]
        by_cases h : 0 ≤ z.toInt
        · rw [t2 h]; exact Or.inr (Or.inl rfl)
        · rw [t1 (by omega)]; exact Or.inr (Or.inr (by omega))
  unfold own_MB
  have w1 : -100000000000000000 - 10000000 ≤ q * (own_pw (s - p)).toInt ∧ q * (own_pw (s - p)).toInt ≤ 100000000000000000 + 10000000 := by
    by_cases h : 0 ≤ z.toInt
    · have := pp h; omega
    · have := nn (by omega); omega
  rcases v with e | e | e <;> rw [e] <;> (try rw [Int.add_mul]) <;> (try rw [Int.sub_mul]) <;> omega
theorem own_S3 {p : Int32} (h : 0 ≤ p.toInt ∧ p.toInt ≤ 3) : own_S8 p := ⟨by omega, by omega⟩
theorem d21_0 : decode c_39 0 = .ok (.aload_n 1, 1) := by decide +kernel
theorem d21_1 : decode c_39 1 = .ok (.astore_n 2, 1) := by decide +kernel
theorem d21_2 : decode c_39 2 = .ok (.aload_n 0, 1) := by decide +kernel
theorem d21_3 : decode c_39 3 = .ok (.getfield 7, 3) := by decide +kernel
theorem d21_6 : decode c_39 6 = .ok (.ifnull 39, 3) := by decide +kernel
theorem d21_45 : decode c_39 45 = .ok (.aload_n 2, 1) := by decide +kernel
theorem d21_46 : decode c_39 46 = .ok (.areturn, 1) := by decide +kernel
theorem pn_com_example_tipple_tipple_Arithmetic : plainName "com/example/tipple/tipple/Arithmetic" = true := by first | (simp [plainName, overriddenIn]; done) | decide +kernel
theorem ef_rmCaN (m : MethodId) (x0 : Addr) (x1 : Addr) : entryFrame m #[(.ref x0), (.ref x1)] 4 = mkF m 0 #[.val (.ref x0), .val (.ref x1), .unset, .unset] [] := by first | (simp [entryFrame, mkF, argsToLocals, Value.category]; done) | rfl
def QrmCaN (Z : State) (a1 : Addr) (a2 : Addr) (sc : Int32) (z : Int64) (h0 : Heap) (n0 : Nat) (v : Option Value) (h : Heap) (L : List Loc) : Prop := ∃ b ws, v = some (.ref b) ∧ Fr n0 L ∧ Keep h0 h ws ∧ (∀ x ∈ ws, n0 ≤ x ∧ (x = a2 ∨ h0.size ≤ x)) ∧ (b = a2 ∨ b < n0 ∨ h0.size ≤ b) ∧ own_BD Z h b sc z
theorem rmCaN (l : Launch) (Z : State) (a0 : Array Value) (hw : ∀ d ∈ tables_1, d.before a0 Z = true) (ws : List Jvm.Cond) (a1 : Addr) (a2 : Addr) (sc : Int32) (z : Int64) (h0 : Heap) (n0 : Nat) (Z0 : n0 ≤ h0.size) (Fp : Fld Z h0 a1 "com/example/tipple/tipple/Arithmetic" "places" "Ljava/lang/Integer;" .null) (B2 : own_BD Z h0 a2 sc z) :
    MetFree l m_7 (head1 (Jvm.Cond.code m_7 prog_7_method_7_code 4 (some (.object "java/math/BigDecimal")) :: ws) ({ frames := 0, cells := 0, slots := 0, locals := 0 } : Room)) (fun a U => a = #[(.ref a1), (.ref a2)] ∧ Z.Warmed39 U.vm ∧ U.heap = h0) (fun _ _ _ _ _ => True) (fun _ U o U' => ∃ v L, o = .returned v ∧ QrmCaN Z a1 a2 sc z h0 n0 v U'.heap L ∧ FrameEnd U o U' L ({ frames := 0, cells := 0, slots := 0, locals := 0 } : Room).cells ({ frames := 0, cells := 0, slots := 0, locals := 0 } : Room).slots) := by
  refine MetFree.of_bodySF (plainFor_of_name pn_com_example_tipple_tipple_Arithmetic) hisR ?_
  intro p e s m args below meth c s₁ Bd hml0 hP hK
  obtain ⟨rfl, hZ, hh⟩ := hP
  have hx := Bd.exec
  have hby := Bd.bytes
  have hml : c.maxLocals = 4 := hml0
  have hown : s.vm.findClass "com/example/tipple/tipple/Arithmetic" = some m.cls := findClass_of_methodNamed Bd.named
  have hnm := (name_of_methodNamed Bd.named Bd.method).1
  have X0 : Stand p l e ({ frames := 0, cells := 0, slots := 0, locals := 0 } : Room) s m #[(.ref a1), (.ref a2)] below meth c s₁ [] 0 0 := Stand.of_body Bd
  have e0 : s₁.heap = h0 := by rw [← hh, Bd.state]; rfl
  have N0 := Fr.nil n0
  have pre0 : ∀ t, Steps p.tables e below (s₁.setTop (mkF m 0 #[.val (.ref a1), .val (.ref a2), .unset, .unset] [])) t → Steps p.tables e below (s₁.setTop (entryFrame m #[(.ref a1), (.ref a2)] 4)) t := fun t k => castTop (ef_rmCaN m a1 a2) k
  obtain ⟨T1, X1, e1, st1⟩ := getF X0 hx hZ hown (host := "") (Or.inl (own_w hw 46 rfl)) Via.refl e0 Fp (g := (mkF m 3 #[.val (.ref a1), .val (.ref a2), .val (.ref a2), .unset] [(.ref a1)])) rfl rfl (hb hby d21_3)
  obtain ⟨fs, hr, hrun, hended, hW, hsame⟩ := X1.leave (v := some (.ref a2)) (fun h => by rw [Bd.returns] at h; cases h) Bd.notSynchronized
  refine ⟨_, _, pre0 _ ?_, hrun, hended, _, _, rfl, ?_, ⟨_, rfl⟩, hW, hsame.mono (by decide) (by decide)⟩
  · show Steps p.tables e below (s₁.setTop (mkF m 0 #[.val (.ref a1), .val (.ref a2), .unset, .unset] [])) _
    refine XS.aloadN X0.here hx rfl (hb hby d21_0) rfl rfl ?_
    refine XS.astoreN X0.here hx rfl (hb hby d21_1) rfl rfl (l' := #[.val (.ref a1), .val (.ref a2), .val (.ref a2), .unset]) rfl ?_
    refine XS.aloadN X0.here hx rfl (hb hby d21_2) rfl rfl ?_
    refine st1 _ ?_
    refine XS.ifnullYes X1.here hx rfl (pc0 := 6) (pc' := 45) rfl (hb hby d21_6) rfl (by decide) (by decide) ?_
    refine XS.aloadN X1.here hx rfl (hb hby d21_45) rfl rfl ?_
    show Steps p.tables e below (T1.setTop (mkF m 46 #[.val (.ref a1), .val (.ref a2), .val (.ref a2), .unset] [(.ref a2)])) _
    jvm_step X1.here [X1.here.top, hx, (hb hby d21_46), X1.method', Bd.returns, Value.isRef, FieldType.isReference]
    first | (intro acts; rw [hr _ acts rfl rfl rfl]) | rw [hr _ _ rfl rfl rfl]
    exact Steps.refl _
  · show QrmCaN Z a1 a2 sc z h0 n0 _ T1.heap _
    rw [e1]
    exact ⟨a2, [], rfl, N0, Keep.refl _ _, all0, Or.inl rfl, B2⟩
theorem own_fu {Z : State} {h : Heap} {a : Addr} {C n d : String} {x y : Int32} (F : Fld Z h a C n d (.int x)) (G : Fld Z h a C n d (.int y)) : x = y := by
  obtain ⟨cell, cf, k, i, f, h1, r⟩ := F
  obtain ⟨cell', cf', k', i', f', h1', r'⟩ := G
  cases h1.symm.trans h1'
  simp_all
theorem d21_9 : decode c_39 9 = .ok (.aload_n 1, 1) := by decide +kernel
theorem d21_10 : decode c_39 10 = .ok (.invokevirtual 49, 3) := by decide +kernel
theorem d21_13 : decode c_39 13 = .ok (.aload_n 0, 1) := by decide +kernel
theorem d21_14 : decode c_39 14 = .ok (.getfield 7, 3) := by decide +kernel
theorem d21_17 : decode c_39 17 = .ok (.invokevirtual 33, 3) := by decide +kernel
theorem d21_20 : decode c_39 20 = .ok (.if_icmp .le 25, 3) := by decide +kernel
theorem d21_23 : decode c_39 23 = .ok (.aload_n 1, 1) := by decide +kernel
theorem d21_24 : decode c_39 24 = .ok (.aload_n 0, 1) := by decide +kernel
theorem d21_25 : decode c_39 25 = .ok (.getfield 7, 3) := by decide +kernel
theorem d21_28 : decode c_39 28 = .ok (.invokevirtual 33, 3) := by decide +kernel
theorem d21_31 : decode c_39 31 = .ok (.invokestatic 52, 3) := by decide +kernel
theorem pd_20 : parseMethodDescriptor "(Ljava/math/BigDecimal;I)Ljava/math/BigDecimal;" = some ⟨[(.object "java/math/BigDecimal"), .int], some (.object "java/math/BigDecimal")⟩ := by decide +kernel
theorem d21_34 : decode c_39 34 = .ok (.astore_n 3, 1) := by decide +kernel
theorem d21_35 : decode c_39 35 = .ok (.aload_n 3, 1) := by decide +kernel
theorem d21_36 : decode c_39 36 = .ok (.aload_n 1, 1) := by decide +kernel
theorem d21_37 : decode c_39 37 = .ok (.invokevirtual 58, 3) := by decide +kernel
theorem d21_40 : decode c_39 40 = .ok (.ifCond .eq 5, 3) := by decide +kernel
theorem d21_43 : decode c_39 43 = .ok (.aload_n 3, 1) := by decide +kernel
theorem d21_44 : decode c_39 44 = .ok (.astore_n 2, 1) := by decide +kernel
theorem ef_rmCaR (m : MethodId) (x0 : Addr) (x1 : Addr) : entryFrame m #[(.ref x0), (.ref x1)] 4 = mkF m 0 #[.val (.ref x0), .val (.ref x1), .unset, .unset] [] := by first | (simp [entryFrame, mkF, argsToLocals, Value.category]; done) | rfl
def QrmCaR (Z : State) (a1 : Addr) (a2 : Addr) (sc : Int32) (z : Int64) (pi : Addr) (pv : Int32) (h0 : Heap) (n0 : Nat) (v : Option Value) (h : Heap) (L : List Loc) : Prop := ∃ b ws, v = some (.ref b) ∧ Fr n0 L ∧ Keep h0 h ws ∧ (∀ x ∈ ws, n0 ≤ x ∧ (x = a2 ∨ h0.size ≤ x)) ∧ (b = a2 ∨ b < n0 ∨ h0.size ≤ b) ∧ own_BD Z h b (own_cs z sc pv) (own_cz z sc pv)
theorem rmCaR (l : Launch) (Z : State) (a0 : Array Value) (hw : ∀ d ∈ tables_1, d.before a0 Z = true) (ws : List Jvm.Cond) (a1 : Addr) (a2 : Addr) (sc : Int32) (z : Int64) (pi : Addr) (pv : Int32) (h0 : Heap) (n0 : Nat) (Z0 : n0 ≤ h0.size) (J : own_J Z) (O0 : Old Z n0 h0) (Fp : Fld Z h0 a1 "com/example/tipple/tipple/Arithmetic" "places" "Ljava/lang/Integer;" (.ref pi)) (Ei : Exa Z h0 pi "java/lang/Integer") (Fi : Fld Z h0 pi "java/lang/Integer" "value" "I" (.int pv)) (hp3 : 0 ≤ pv.toInt ∧ pv.toInt ≤ 3) (hs : own_S8 sc) (hz : own_HB z) (B2 : own_BD Z h0 a2 sc z) (P2 : ¬ (z = 0) → own_PS Z h0 n0 a2 z) :
    MetFree l m_7 (head1 (Jvm.Cond.code m_7 prog_7_method_7_code 4 (some (.object "java/math/BigDecimal")) :: ws) ({ frames := 9, cells := 1, slots := 5, locals := 139 } : Room)) (fun a U => a = #[(.ref a1), (.ref a2)] ∧ Z.Warmed39 U.vm ∧ U.heap = h0) (fun _ _ _ _ _ => True) (fun _ U o U' => ∃ v L, o = .returned v ∧ QrmCaR Z a1 a2 sc z pi pv h0 n0 v U'.heap L ∧ FrameEnd U o U' L ({ frames := 9, cells := 1, slots := 5, locals := 139 } : Room).cells ({ frames := 9, cells := 1, slots := 5, locals := 139 } : Room).slots) := by
  refine MetFree.of_bodySF (plainFor_of_name pn_com_example_tipple_tipple_Arithmetic) hisR ?_
  intro p e s m args below meth c s₁ Bd hml0 hP hK
  obtain ⟨rfl, hZ, hh⟩ := hP
  have hx := Bd.exec
  have hby := Bd.bytes
  have hml : c.maxLocals = 4 := hml0
  have hown : s.vm.findClass "com/example/tipple/tipple/Arithmetic" = some m.cls := findClass_of_methodNamed Bd.named
  have hnm := (name_of_methodNamed Bd.named Bd.method).1
  have X0 : Stand p l e ({ frames := 9, cells := 1, slots := 5, locals := 139 } : Room) s m #[(.ref a1), (.ref a2)] below meth c s₁ [] 0 0 := Stand.of_body Bd
  have e0 : s₁.heap = h0 := by rw [← hh, Bd.state]; rfl
  have N0 := Fr.nil n0
  have pre0 : ∀ t, Steps p.tables e below (s₁.setTop (mkF m 0 #[.val (.ref a1), .val (.ref a2), .unset, .unset] [])) t → Steps p.tables e below (s₁.setTop (entryFrame m #[(.ref a1), (.ref a2)] 4)) t := fun t k => castTop (ef_rmCaR m a1 a2) k
  have hp8 := own_S3 hp3
  obtain ⟨T1, X1, e1, st1⟩ := getF X0 hx hZ hown (host := "") (Or.inl (own_w hw 46 rfl)) Via.refl e0 Fp (g := (mkF m 3 #[.val (.ref a1), .val (.ref a2), .val (.ref a2), .unset] [(.ref a1)])) rfl rfl (hb hby d21_3)
  obtain ⟨cq2, kq2, q2a, q2b, q2c⟩ := isOf hZ e1 B2.1
  obtain ⟨_, _, ⟨T2, L2, k2, n2⟩, -, X2, ⟨Lc2, hQ2, l2, y2, z2⟩, st2⟩ := X1.virtualBack hx (y := m_23) (z := m_23) hown (mvT hZ (own_w hw 116 rfl)) (mvT hZ (own_w hw 117 rfl)) (notFace_of_selects (args := #[]) (mvT hZ (own_w hw 119 rfl))) (mvT hZ (own_w hw 119 rfl)) (mvT hZ (own_w hw 118 rfl)) (by decide) (backOf (W := 0) (rmScale l Z a0 hw [] a2 sc z h0 n0 Z0 B2) hZ (own_w hw 120 rfl) (own_w hw 9 rfl) (by decide) (by decide)) q2a q2c (g := (mkF m 10 #[.val (.ref a1), .val (.ref a2), .val (.ref a2), .unset] [(.ref a2)])) rfl (by rw [hml]; rfl) (Steps.refl _) (argsL := []) (rest := []) (lenOf pd_15 rfl) rfl (by show 2 * 0 + _ ≤ _; exact Nat.le_of_eq rfl) (hb hby d21_10) (fun _ _ => ⟨rfl, e1, (by decide : 0 + 0 ≤ _), (by decide : 0 + 0 ≤ _)⟩)
  dsimp only [Pt.U, Pt.locs, Pt.cells, Pt.slots] at X2 l2 y2 z2 st2 hQ2
  subst y2 z2
  obtain ⟨rfl, N2q, e2⟩ := hQ2
  have N2 : Fr n0 L2 := by rw [l2]; exact Fr.app N0 N2q
  obtain ⟨T3, X3, e3, st3⟩ := getF X2 hx hZ hown (host := "") (Or.inl (own_w hw 46 rfl)) Via.refl e2 Fp (g := (mkF m 14 #[.val (.ref a1), .val (.ref a2), .val (.ref a2), .unset] [(.ref a1), (.int sc)])) rfl rfl (hb hby d21_14)
  obtain ⟨cq4, kq4, q4a, q4b, q4c⟩ := isOf hZ e3 Ei
  obtain ⟨_, _, ⟨T4, L4, k4, n4⟩, -, X4, ⟨Lc4, hQ4, l4, y4, z4⟩, st4⟩ := X3.virtualBack hx (y := m_4) (z := m_4) hown (mvT hZ (own_w hw 121 rfl)) (mvT hZ (own_w hw 122 rfl)) (notFace_of_selects (args := #[]) (mvT hZ (own_w hw 124 rfl))) (mvT hZ (own_w hw 124 rfl)) (mvT hZ (own_w hw 123 rfl)) (by decide) (backOf (W := 1) (rmIv l Z a0 hw [] pi pv h0 n0 Z0 Fi) hZ (own_w hw 125 rfl) (own_w hw 2 rfl) (by decide) (by decide)) q4a q4c (g := (mkF m 17 #[.val (.ref a1), .val (.ref a2), .val (.ref a2), .unset] [(.ref pi), (.int sc)])) rfl (by rw [hml]; rfl) (Steps.refl _) (argsL := []) (rest := [(.int sc)]) (lenOf pd_15 rfl) rfl (by show 2 * 0 + _ ≤ _; exact Nat.le_of_eq rfl) (hb hby d21_17) (fun _ _ => ⟨rfl, e3, (by decide : 0 + 0 ≤ _), (by decide : 0 + 0 ≤ _)⟩)
  dsimp only [Pt.U, Pt.locs, Pt.cells, Pt.slots] at X4 l4 y4 z4 st4 hQ4
  subst y4 z4
  obtain ⟨rfl, N4q, e4⟩ := hQ4
  have N4 : Fr n0 L4 := by rw [l4]; exact Fr.app N2 N4q
  have pk5 : ∀ target, Steps p.tables e below (T4.setTop (mkF m 20 #[.val (.ref a1), .val (.ref a2), .val (.ref a2), .unset] [(.int pv), (.int sc)])) target → Steps p.tables e below (s₁.setTop (mkF m 0 #[.val (.ref a1), .val (.ref a2), .unset, .unset] [])) target := by
    intro target kt
    show Steps p.tables e below (s₁.setTop (mkF m 0 #[.val (.ref a1), .val (.ref a2), .unset, .unset] [])) _
    refine XS.aloadN X0.here hx rfl (hb hby d21_0) rfl rfl ?_
    refine XS.astoreN X0.here hx rfl (hb hby d21_1) rfl rfl (l' := #[.val (.ref a1), .val (.ref a2), .val (.ref a2), .unset]) rfl ?_
    refine XS.aloadN X0.here hx rfl (hb hby d21_2) rfl rfl ?_
    refine st1 _ ?_
    refine XS.ifnullNo X1.here hx rfl (hb hby d21_6) rfl ?_
    refine XS.aloadN X1.here hx rfl (hb hby d21_9) rfl rfl ?_
    refine st2.trans ?_
    refine XS.aloadN X2.here hx rfl (hb hby d21_13) rfl rfl ?_
    refine st3 _ ?_
    refine st4.trans ?_
    exact kt
  by_cases hq1 : pv < sc
  · have hlt : pv.toInt < sc.toInt := Int32.lt_iff_toInt_lt.mp hq1
    obtain ⟨gp1, gp2, gp3, gp4, gp5⟩ := own_gap hs hp8 hlt
    have hD := own_pD gp1 gp2
    obtain ⟨T6, X6, e6, st6⟩ := getF X4 hx hZ hown (host := "") (Or.inl (own_w hw 46 rfl)) Via.refl e4 Fp (g := (mkF m 25 #[.val (.ref a1), .val (.ref a2), .val (.ref a2), .unset] [(.ref a1), (.ref a2)])) rfl rfl (hb hby d21_25)
    obtain ⟨cq7, kq7, q7a, q7b, q7c⟩ := isOf hZ e6 Ei
    obtain ⟨_, _, ⟨T7, L7, k7, n7⟩, -, X7, ⟨Lc7, hQ7, l7, y7, z7⟩, st7⟩ := X6.virtualBack hx (y := m_4) (z := m_4) hown (mvT hZ (own_w hw 121 rfl)) (mvT hZ (own_w hw 122 rfl)) (notFace_of_selects (args := #[]) (mvT hZ (own_w hw 124 rfl))) (mvT hZ (own_w hw 124 rfl)) (mvT hZ (own_w hw 123 rfl)) (by decide) (backOf (W := 1) (rmIv l Z a0 hw [] pi pv h0 n0 Z0 Fi) hZ (own_w hw 125 rfl) (own_w hw 2 rfl) (by decide) (by decide)) q7a q7c (g := (mkF m 28 #[.val (.ref a1), .val (.ref a2), .val (.ref a2), .unset] [(.ref pi), (.ref a2)])) rfl (by rw [hml]; rfl) (Steps.refl _) (argsL := []) (rest := [(.ref a2)]) (lenOf pd_15 rfl) rfl (by show 2 * 0 + _ ≤ _; exact Nat.le_of_eq rfl) (hb hby d21_28) (fun _ _ => ⟨rfl, e6, (by decide : 0 + 0 ≤ _), (by decide : 0 + 0 ≤ _)⟩)
    dsimp only [Pt.U, Pt.locs, Pt.cells, Pt.slots] at X7 l7 y7 z7 st7 hQ7
    subst y7 z7
    obtain ⟨rfl, N7q, e7⟩ := hQ7
    have N7 : Fr n0 L7 := by rw [l7]; exact Fr.app N4 N7q
    obtain ⟨_, _, ⟨T8, L8, k8, n8⟩, -, X8, ⟨Lc8, hQ8, l8, y8, z8⟩, st8⟩ := Jvm.LawKit.callS X7 hx (y := m_39) hown (mvT hZ (own_w hw 144 rfl)) (mvT hZ (own_w hw 145 rfl)) (mvT hZ (own_w hw 146 rfl)) (mvT hZ (own_w hw 147 rfl)) (by decide) (backOf (W := 0) (rmRd l Z a0 hw [] a2 pv sc z h0 n0 Z0 J O0 B2 hz hs hp8 hlt) hZ (own_w hw 147 rfl) (own_w hw 146 rfl) (by decide) (by decide)) (g := (mkF m 31 #[.val (.ref a1), .val (.ref a2), .val (.ref a2), .unset] [(.int pv), (.ref a2)])) rfl (by rw [hml]; rfl) (argsL := [(.ref a2), (.int pv)]) (rest := []) (lenOf pd_20 rfl) rfl (by show 2 * 0 + _ ≤ _; exact Nat.le_of_eq rfl) (hb hby d21_31) (fun _ _ => ⟨rfl, e7, (by decide : 0 + 1 ≤ _), (by decide : 0 + 5 ≤ _)⟩)
    dsimp only [Pt.U, Pt.locs, Pt.cells, Pt.slots] at X8 l8 y8 z8 st8 hQ8
    subst y8 z8
    obtain ⟨b8, rfl, N8q, K8, q8, B8, P8⟩ := hQ8
    have N8 : Fr n0 L8 := by rw [l8]; exact Fr.app N7 N8q
    have Z9 : n0 ≤ T8.heap.size := Nat.le_trans Z0 K8.1
    have ne_c : b8 ≠ a2 := fun e_ => by have u := B8.2.1; rw [e_] at u; exact gp3 (own_fu u (B2.keep K8 nin0).2.1)
    obtain ⟨cq10, kq10, q10a, q10b, q10c⟩ := isOf hZ rfl B8.1
    obtain ⟨_, _, ⟨T10, L10, k10, n10⟩, -, X10, ⟨Lc10, hQ10, l10, y10, z10⟩, st10⟩ := X8.virtualBack hx (y := m_29) (z := m_29) hown (mvT hZ (own_w hw 195 rfl)) (mvT hZ (own_w hw 196 rfl)) (notFace_of_selects (args := #[]) (mvT hZ (own_w hw 198 rfl))) (mvT hZ (own_w hw 198 rfl)) (mvT hZ (own_w hw 197 rfl)) (by decide) (backOf (W := 0) (rmCt l Z a0 hw [] b8 a2 pv (own_dv z (own_pw (sc - pv))) sc z T8.heap n0 Z9 J (O0.keep K8 all0) B8 (B2.keep K8 nin0) ne_c (own_dvB hz hD) hz hp8 hs hlt (own_dmb hz hD (by omega) gp2) P8 (fun q => (P2 q).keep K8 nin0)) hZ (own_w hw 199 rfl) (own_w hw 9 rfl) (by decide) (by decide)) q10a q10c (g := (mkF m 37 #[.val (.ref a1), .val (.ref a2), .val (.ref a2), .val (.ref b8)] [(.ref a2), (.ref b8)])) rfl (by rw [hml]; rfl) (Steps.refl _) (argsL := [(.ref a2)]) (rest := []) (lenOf pd_19 rfl) rfl (by show 2 * 0 + _ ≤ _; exact Nat.le_of_eq rfl) (hb hby d21_37) (fun _ _ => ⟨rfl, rfl, (by decide : 1 + 0 ≤ _), (by decide : 5 + 0 ≤ _)⟩)
    dsimp only [Pt.U, Pt.locs, Pt.cells, Pt.slots] at X10 l10 y10 z10 st10 hQ10
    subst y10 z10
    obtain ⟨c10, rfl, N10q, i10, ws10, K10, w10, Ba10, Bb10⟩ := hQ10
    have N10 : Fr n0 L10 := by rw [l10]; exact Fr.app N8 N10q
    have Z11 : n0 ≤ T10.heap.size := Nat.le_trans Z9 K10.1
    have ic : c10 = 0 ↔ own_rm z (own_pw (sc - pv)) = 0 := i10.trans (own_dvm hz hD)
    have pk12 : ∀ target, Steps p.tables e below (T10.setTop (mkF m 40 #[.val (.ref a1), .val (.ref a2), .val (.ref a2), .val (.ref b8)] [(.int c10)])) target → Steps p.tables e below (s₁.setTop (mkF m 0 #[.val (.ref a1), .val (.ref a2), .unset, .unset] [])) target := by
      intro target kt
      refine pk5 _ ?_
      show Steps p.tables e below (T4.setTop (mkF m 20 #[.val (.ref a1), .val (.ref a2), .val (.ref a2), .unset] [(.int pv), (.int sc)])) _
      refine XS.icmpNo X4.here hx rfl (hb hby d21_20) rfl (tlt (hq1 : pv < sc)).2.2.2 ?_
      refine XS.aloadN X4.here hx rfl (hb hby d21_23) rfl rfl ?_
      refine XS.aloadN X4.here hx rfl (hb hby d21_24) rfl rfl ?_
      refine st6 _ ?_
      refine st7.trans ?_
      refine st8 _ ?_
      refine XS.astoreN X8.here hx rfl (hb hby d21_34) rfl rfl (l' := #[.val (.ref a1), .val (.ref a2), .val (.ref a2), .val (.ref b8)]) rfl ?_
      refine XS.aloadN X8.here hx rfl (hb hby d21_35) rfl rfl ?_
      refine XS.aloadN X8.here hx rfl (hb hby d21_36) rfl rfl ?_
      refine st10.trans ?_
      exact kt
    by_cases hq2 : c10 = (0 : Int32)
    · obtain ⟨fs, hr, hrun, hended, hW, hsame⟩ := X10.leave (v := some (.ref a2)) (fun h => by rw [Bd.returns] at h; cases h) Bd.notSynchronized
      refine ⟨_, _, pre0 _ ?_, hrun, hended, _, _, rfl, ?_, ⟨_, rfl⟩, hW, hsame.mono (by decide) (by decide)⟩
      · refine pk12 _ ?_
        show Steps p.tables e below (T10.setTop (mkF m 40 #[.val (.ref a1), .val (.ref a2), .val (.ref a2), .val (.ref b8)] [(.int c10)])) _
        refine XS.ifYes X10.here hx rfl (pc0 := 40) (pc' := 45) rfl (hb hby d21_40) rfl ((if0 _ _).trans (teq (hq2 : c10 = (0 : Int32))).1) (by decide) (by decide) ?_
        refine XS.aloadN X10.here hx rfl (hb hby d21_45) rfl rfl ?_
        show Steps p.tables e below (T10.setTop (mkF m 46 #[.val (.ref a1), .val (.ref a2), .val (.ref a2), .val (.ref b8)] [(.ref a2)])) _
        jvm_step X10.here [X10.here.top, hx, (hb hby d21_46), X10.method', Bd.returns, Value.isRef, FieldType.isReference]
        first | (intro acts; rw [hr _ acts rfl rfl rfl]) | rw [hr _ _ rfl rfl rfl]
        exact Steps.refl _
      · show QrmCaR Z a1 a2 sc z pi pv h0 n0 _ T10.heap _
        exact ⟨a2, _, rfl, N10, own_kk K8 K10, fun x_ z_ => ⟨(w10 x_ ((List.mem_append.mp z_).elim (fun u => nomatch u) id)).2, (w10 x_ ((List.mem_append.mp z_).elim (fun u => nomatch u) id)).1.symm.imp_right fun e_ => q8.elim (fun l_ => absurd (w10 x_ ((List.mem_append.mp z_).elim (fun u => nomatch u) id)).2 (by rw [e_]; exact Nat.not_le.mpr l_)) (fun l_ => by rw [e_]; exact l_)⟩, Or.inl rfl, by rw [own_cs, own_cz, if_pos hq1, if_pos hq1, if_pos (ic.mp hq2), if_pos (ic.mp hq2)]; exact Bb10⟩
    · obtain ⟨fs, hr, hrun, hended, hW, hsame⟩ := X10.leave (v := some (.ref b8)) (fun h => by rw [Bd.returns] at h; cases h) Bd.notSynchronized
      refine ⟨_, _, pre0 _ ?_, hrun, hended, _, _, rfl, ?_, ⟨_, rfl⟩, hW, hsame.mono (by decide) (by decide)⟩
      · refine pk12 _ ?_
        show Steps p.tables e below (T10.setTop (mkF m 40 #[.val (.ref a1), .val (.ref a2), .val (.ref a2), .val (.ref b8)] [(.int c10)])) _
        refine XS.ifNo X10.here hx rfl (hb hby d21_40) rfl ((if0 _ _).trans (feq (hq2 : ¬ (c10 = (0 : Int32)))).1) ?_
        refine XS.aloadN X10.here hx rfl (hb hby d21_43) rfl rfl ?_
        refine XS.astoreN X10.here hx rfl (hb hby d21_44) rfl rfl (l' := #[.val (.ref a1), .val (.ref a2), .val (.ref b8), .val (.ref b8)]) rfl ?_
        refine XS.aloadN X10.here hx rfl (hb hby d21_45) rfl rfl ?_
        show Steps p.tables e below (T10.setTop (mkF m 46 #[.val (.ref a1), .val (.ref a2), .val (.ref b8), .val (.ref b8)] [(.ref b8)])) _
        jvm_step X10.here [X10.here.top, hx, (hb hby d21_46), X10.method', Bd.returns, Value.isRef, FieldType.isReference]
        first | (intro acts; rw [hr _ acts rfl rfl rfl]) | rw [hr _ _ rfl rfl rfl]
        exact Steps.refl _
      · show QrmCaR Z a1 a2 sc z pi pv h0 n0 _ T10.heap _
        exact ⟨b8, _, rfl, N10, own_kk K8 K10, fun x_ z_ => ⟨(w10 x_ ((List.mem_append.mp z_).elim (fun u => nomatch u) id)).2, (w10 x_ ((List.mem_append.mp z_).elim (fun u => nomatch u) id)).1.symm.imp_right fun e_ => q8.elim (fun l_ => absurd (w10 x_ ((List.mem_append.mp z_).elim (fun u => nomatch u) id)).2 (by rw [e_]; exact Nat.not_le.mpr l_)) (fun l_ => by rw [e_]; exact l_)⟩, Or.inr q8, by rw [own_cs, own_cz, if_pos hq1, if_pos hq1, if_neg (fun y => hq2 (ic.mpr y)), if_neg (fun y => hq2 (ic.mpr y))]; exact Ba10⟩
  · obtain ⟨fs, hr, hrun, hended, hW, hsame⟩ := X4.leave (v := some (.ref a2)) (fun h => by rw [Bd.returns] at h; cases h) Bd.notSynchronized
    refine ⟨_, _, pre0 _ ?_, hrun, hended, _, _, rfl, ?_, ⟨_, rfl⟩, hW, hsame.mono (by decide) (by decide)⟩
    · refine pk5 _ ?_
      show Steps p.tables e below (T4.setTop (mkF m 20 #[.val (.ref a1), .val (.ref a2), .val (.ref a2), .unset] [(.int pv), (.int sc)])) _
      refine XS.icmpYes X4.here hx rfl (pc0 := 20) (pc' := 45) rfl (hb hby d21_20) rfl (flt (hq1 : ¬ (pv < sc))).2.2.2 (by decide) (by decide) ?_
      refine XS.aloadN X4.here hx rfl (hb hby d21_45) rfl rfl ?_
      show Steps p.tables e below (T4.setTop (mkF m 46 #[.val (.ref a1), .val (.ref a2), .val (.ref a2), .unset] [(.ref a2)])) _
      jvm_step X4.here [X4.here.top, hx, (hb hby d21_46), X4.method', Bd.returns, Value.isRef, FieldType.isReference]
      first | (intro acts; rw [hr _ acts rfl rfl rfl]) | rw [hr _ _ rfl rfl rfl]
      exact Steps.refl _
    · show QrmCaR Z a1 a2 sc z pi pv h0 n0 _ T4.heap _
      rw [e4]
      exact ⟨a2, [], rfl, N4, Keep.refl _ _, all0, Or.inl rfl, by rw [own_cs, own_cz, if_neg hq1, if_neg hq1]; exact B2⟩
def own_oz : Option Int32 → Int64 → Int32 → Int64
  | none, z, _ => z
  | some p, z, s => own_cz z s p
def own_os : Option Int32 → Int64 → Int32 → Int32
  | none, _, s => s
  | some p, z, s => own_cs z s p
def own_PL (Z : State) (h : Heap) (a : Addr) : Option Int32 → Prop
  | none => Fld Z h a "com/example/tipple/tipple/Arithmetic" "places" "Ljava/lang/Integer;" .null
  | some p => ∃ pi, Fld Z h a "com/example/tipple/tipple/Arithmetic" "places" "Ljava/lang/Integer;" (.ref pi) ∧ Exa Z h pi "java/lang/Integer" ∧ Fld Z h pi "java/lang/Integer" "value" "I" (.int p) ∧ 0 ≤ p.toInt ∧ p.toInt ≤ 3
theorem d13_0 : decode c_38 0 = .ok (.aload_n 0, 1) := by decide +kernel
theorem d13_1 : decode c_38 1 = .ok (.aload_n 1, 1) := by decide +kernel
theorem d13_2 : decode c_38 2 = .ok (.aload_n 2, 1) := by decide +kernel
theorem d13_3 : decode c_38 3 = .ok (.invokevirtual 13, 3) := by decide +kernel
theorem pd_21 : parseMethodDescriptor "(Ljava/math/BigDecimal;)Ljava/math/BigDecimal;" = some ⟨[(.object "java/math/BigDecimal")], some (.object "java/math/BigDecimal")⟩ := by decide +kernel
theorem d13_6 : decode c_38 6 = .ok (.invokevirtual 19, 3) := by decide +kernel
theorem d13_9 : decode c_38 9 = .ok (.areturn, 1) := by decide +kernel
theorem ef_rmSum (m : MethodId) (x0 : Addr) (x1 : Addr) (x2 : Addr) : entryFrame m #[(.ref x0), (.ref x1), (.ref x2)] 3 = mkF m 0 #[.val (.ref x0), .val (.ref x1), .val (.ref x2)] [] := by first | (simp [entryFrame, mkF, argsToLocals, Value.category]; done) | rfl
def QrmSum (Z : State) (a1 : Addr) (a2 : Addr) (a3 : Addr) (x : Int64) (s1 : Int32) (y : Int64) (s2 : Int32) (oo : Option Int32) (h0 : Heap) (n0 : Nat) (v : Option Value) (h : Heap) (L : List Loc) : Prop := ∃ b, v = some (.ref b) ∧ Fr n0 L ∧ Keep h0 h [] ∧ (b < n0 ∨ h0.size ≤ b) ∧ own_BD Z h b (own_os oo (own_U x s1 y s2) (own_max s1 s2)) (own_oz oo (own_U x s1 y s2) (own_max s1 s2))
theorem rmSum (l : Launch) (Z : State) (a0 : Array Value) (hw : ∀ d ∈ tables_1, d.before a0 Z = true) (ws : List Jvm.Cond) (a1 : Addr) (a2 : Addr) (a3 : Addr) (x : Int64) (s1 : Int32) (y : Int64) (s2 : Int32) (oo : Option Int32) (h0 : Heap) (n0 : Nat) (Z0 : n0 ≤ h0.size) (J : own_J Z) (O0 : Old Z n0 h0) (E1 : Exa Z h0 a1 "com/example/tipple/tipple/Arithmetic") (HP : own_PL Z h0 a1 oo) (B1 : own_BD Z h0 a2 s1 x) (B2 : own_BD Z h0 a3 s2 y) (hx_ : own_X x) (hy_ : own_X y) (hs1 : own_S8 s1) (hs2 : own_S8 s2) :
    MetFree l m_30 (head1 (Jvm.Cond.code m_30 prog_7_method_2_code 3 (some (.object "java/math/BigDecimal")) :: ws) ({ frames := 10, cells := 2, slots := 10, locals := 154 } : Room)) (fun a U => a = #[(.ref a1), (.ref a2), (.ref a3)] ∧ Z.Warmed39 U.vm ∧ U.heap = h0) (fun _ _ _ _ _ => True) (fun _ U o U' => ∃ v L, o = .returned v ∧ QrmSum Z a1 a2 a3 x s1 y s2 oo h0 n0 v U'.heap L ∧ FrameEnd U o U' L ({ frames := 10, cells := 2, slots := 10, locals := 154 } : Room).cells ({ frames := 10, cells := 2, slots := 10, locals := 154 } : Room).slots) := by
  refine MetFree.of_bodySF (plainFor_of_name pn_com_example_tipple_tipple_Arithmetic) hisR ?_
  intro p e s m args below meth c s₁ Bd hml0 hP hK
  obtain ⟨rfl, hZ, hh⟩ := hP
  have hx := Bd.exec
  have hby := Bd.bytes
  have hml : c.maxLocals = 3 := hml0
  have hown : s.vm.findClass "com/example/tipple/tipple/Arithmetic" = some m.cls := findClass_of_methodNamed Bd.named
  have hnm := (name_of_methodNamed Bd.named Bd.method).1
  have X0 : Stand p l e ({ frames := 10, cells := 2, slots := 10, locals := 154 } : Room) s m #[(.ref a1), (.ref a2), (.ref a3)] below meth c s₁ [] 0 0 := Stand.of_body Bd
  have e0 : s₁.heap = h0 := by rw [← hh, Bd.state]; rfl
  have N0 := Fr.nil n0
  have pre0 : ∀ t, Steps p.tables e below (s₁.setTop (mkF m 0 #[.val (.ref a1), .val (.ref a2), .val (.ref a3)] [])) t → Steps p.tables e below (s₁.setTop (entryFrame m #[(.ref a1), (.ref a2), (.ref a3)] 3)) t := fun t k => castTop (ef_rmSum m a1 a2 a3) k
  rcases oo with _ | pv
  · obtain ⟨cq1, kq1, q1a, q1b, q1c⟩ := isOf hZ e0 B1.1
    obtain ⟨_, _, ⟨T1, L1, k1, n1⟩, -, X1, ⟨Lc1, hQ1, l1, y1, z1⟩, st1⟩ := X0.virtualBack hx (y := m_11) (z := m_11) hown (mvT hZ (own_w hw 84 rfl)) (mvT hZ (own_w hw 85 rfl)) (notFace_of_selects (args := #[]) (mvT hZ (own_w hw 87 rfl))) (mvT hZ (own_w hw 87 rfl)) (mvT hZ (own_w hw 86 rfl)) (by decide) (backOf (W := 1) (rmAdd l Z a0 hw [] a2 a3 x s1 y s2 h0 n0 Z0 J O0 B1 B2 hx_ hy_ hs1 hs2) hZ (own_w hw 88 rfl) (own_w hw 9 rfl) (by decide) (by decide)) q1a q1c (g := (mkF m 3 #[.val (.ref a1), .val (.ref a2), .val (.ref a3)] [(.ref a3), (.ref a2), (.ref a1)])) rfl (by rw [hml]; rfl) (Steps.refl _) (argsL := [(.ref a3)]) (rest := [(.ref a1)]) (lenOf pd_21 rfl) rfl (by show 2 * 0 + _ ≤ _; exact Nat.le_of_eq rfl) (hb hby d13_3) (fun _ _ => ⟨rfl, e0, (by decide : 0 + 1 ≤ _), (by decide : 0 + 5 ≤ _)⟩)
    dsimp only [Pt.U, Pt.locs, Pt.cells, Pt.slots] at X1 l1 y1 z1 st1 hQ1
    subst y1 z1
    obtain ⟨b1, rfl, N1q, K1, q1, B1, P1⟩ := hQ1
    have N1 : Fr n0 L1 := by rw [l1]; exact Fr.app N0 N1q
    have Z2 : n0 ≤ T1.heap.size := Nat.le_trans Z0 K1.1
    have f3 := HP.keep K1 nin0
    have f5 := E1.keep K1
    obtain ⟨cq4, kq4, q4a, q4b, q4c⟩ := isOf hZ rfl f5
    obtain ⟨_, _, ⟨T4, L4, k4, n4⟩, -, X4, ⟨Lc4, hQ4, l4, y4, z4⟩, st4⟩ := X1.virtualBack hx (y := m_7) (z := m_7) hown (mvT hZ (own_w hw 111 rfl)) (mvT hZ (own_w hw 112 rfl)) (notFace_of_selects (args := #[]) (mvT hZ (own_w hw 114 rfl))) (mvT hZ (own_w hw 114 rfl)) (mvT hZ (own_w hw 113 rfl)) (by decide) (backOf (W := 0) (rmCaN l Z a0 hw [] a1 b1 (own_max s1 s2) (own_U x s1 y s2) T1.heap n0 Z2 f3 B1) hZ (own_w hw 115 rfl) (own_w hw 41 rfl) (by decide) (by decide)) q4a q4c (g := (mkF m 6 #[.val (.ref a1), .val (.ref a2), .val (.ref a3)] [(.ref b1), (.ref a1)])) rfl (by rw [hml]; rfl) (Steps.refl _) (argsL := [(.ref b1)]) (rest := []) (lenOf pd_21 rfl) rfl (by show 2 * 0 + _ ≤ _; exact Nat.le_of_eq rfl) (hb hby d13_6) (fun _ _ => ⟨rfl, rfl, (by decide : 1 + 0 ≤ _), (by decide : 5 + 0 ≤ _)⟩)
    dsimp only [Pt.U, Pt.locs, Pt.cells, Pt.slots] at X4 l4 y4 z4 st4 hQ4
    subst y4 z4
    obtain ⟨b4, ws4, rfl, N4q, K4, w4, q4, B4⟩ := hQ4
    have N4 : Fr n0 L4 := by rw [l4]; exact Fr.app N1 N4q
    have Z6 : n0 ≤ T4.heap.size := Nat.le_trans Z2 K4.1
    obtain ⟨fs, hr, hrun, hended, hW, hsame⟩ := X4.leave (v := some (.ref b4)) (fun h => by rw [Bd.returns] at h; cases h) Bd.notSynchronized
    refine ⟨_, _, pre0 _ ?_, hrun, hended, _, _, rfl, ?_, ⟨_, rfl⟩, hW, hsame.mono (by decide) (by decide)⟩
    · show Steps p.tables e below (s₁.setTop (mkF m 0 #[.val (.ref a1), .val (.ref a2), .val (.ref a3)] [])) _
      refine XS.aloadN X0.here hx rfl (hb hby d13_0) rfl rfl ?_
      refine XS.aloadN X0.here hx rfl (hb hby d13_1) rfl rfl ?_
      refine XS.aloadN X0.here hx rfl (hb hby d13_2) rfl rfl ?_
      refine st1.trans ?_
      refine st4.trans ?_
      show Steps p.tables e below (T4.setTop (mkF m 9 #[.val (.ref a1), .val (.ref a2), .val (.ref a3)] [(.ref b4)])) _
      jvm_step X4.here [X4.here.top, hx, (hb hby d13_9), X4.method', Bd.returns, Value.isRef, FieldType.isReference]
      first | (intro acts; rw [hr _ acts rfl rfl rfl]) | rw [hr _ _ rfl rfl rfl]
      exact Steps.refl _
    · show QrmSum Z a1 a2 a3 x s1 y s2 none h0 n0 _ T4.heap _
      exact ⟨b4, rfl, N4, K1.trans K4 (fun x_ z_ => Or.inr ((w4 x_ z_).2.elim (fun e_ => q1.elim (fun l_ => absurd (w4 x_ z_).1 (by rw [e_]; exact Nat.not_le.mpr l_)) (fun l_ => by rw [e_]; exact l_)) (fun l_ => Nat.le_trans K1.1 l_))), q4.elim (fun e_ => by rw [e_]; exact q1) (fun l_ => l_.imp_right (Nat.le_trans K1.1)), B4⟩
  · obtain ⟨pi, Fp, Ei, Fi, hp3⟩ := HP
    obtain ⟨cq1, kq1, q1a, q1b, q1c⟩ := isOf hZ e0 B1.1
    obtain ⟨_, _, ⟨T1, L1, k1, n1⟩, -, X1, ⟨Lc1, hQ1, l1, y1, z1⟩, st1⟩ := X0.virtualBack hx (y := m_11) (z := m_11) hown (mvT hZ (own_w hw 84 rfl)) (mvT hZ (own_w hw 85 rfl)) (notFace_of_selects (args := #[]) (mvT hZ (own_w hw 87 rfl))) (mvT hZ (own_w hw 87 rfl)) (mvT hZ (own_w hw 86 rfl)) (by decide) (backOf (W := 1) (rmAdd l Z a0 hw [] a2 a3 x s1 y s2 h0 n0 Z0 J O0 B1 B2 hx_ hy_ hs1 hs2) hZ (own_w hw 88 rfl) (own_w hw 9 rfl) (by decide) (by decide)) q1a q1c (g := (mkF m 3 #[.val (.ref a1), .val (.ref a2), .val (.ref a3)] [(.ref a3), (.ref a2), (.ref a1)])) rfl (by rw [hml]; rfl) (Steps.refl _) (argsL := [(.ref a3)]) (rest := [(.ref a1)]) (lenOf pd_21 rfl) rfl (by show 2 * 0 + _ ≤ _; exact Nat.le_of_eq rfl) (hb hby d13_3) (fun _ _ => ⟨rfl, e0, (by decide : 0 + 1 ≤ _), (by decide : 0 + 5 ≤ _)⟩)
    dsimp only [Pt.U, Pt.locs, Pt.cells, Pt.slots] at X1 l1 y1 z1 st1 hQ1
    subst y1 z1
    obtain ⟨b1, rfl, N1q, K1, q1, B1, P1⟩ := hQ1
    have N1 : Fr n0 L1 := by rw [l1]; exact Fr.app N0 N1q
    have Z2 : n0 ≤ T1.heap.size := Nat.le_trans Z0 K1.1
    have f3 := Fp.keep K1 nin0
    have f4 := Ei.keep K1
    have f5 := Fi.keep K1 nin0
    have f7 := E1.keep K1
    obtain ⟨cq6, kq6, q6a, q6b, q6c⟩ := isOf hZ rfl f7
    obtain ⟨_, _, ⟨T6, L6, k6, n6⟩, -, X6, ⟨Lc6, hQ6, l6, y6, z6⟩, st6⟩ := X1.virtualBack hx (y := m_7) (z := m_7) hown (mvT hZ (own_w hw 111 rfl)) (mvT hZ (own_w hw 112 rfl)) (notFace_of_selects (args := #[]) (mvT hZ (own_w hw 114 rfl))) (mvT hZ (own_w hw 114 rfl)) (mvT hZ (own_w hw 113 rfl)) (by decide) (backOf (W := 0) (rmCaR l Z a0 hw [] a1 b1 (own_max s1 s2) (own_U x s1 y s2) pi pv T1.heap n0 Z2 J (O0.keep K1 all0) f3 f4 f5 hp3 (own_maxS hs1 hs2).1 (own_UB hx_ hy_ hs1 hs2) B1 P1) hZ (own_w hw 115 rfl) (own_w hw 41 rfl) (by decide) (by decide)) q6a q6c (g := (mkF m 6 #[.val (.ref a1), .val (.ref a2), .val (.ref a3)] [(.ref b1), (.ref a1)])) rfl (by rw [hml]; rfl) (Steps.refl _) (argsL := [(.ref b1)]) (rest := []) (lenOf pd_21 rfl) rfl (by show 2 * 0 + _ ≤ _; exact Nat.le_of_eq rfl) (hb hby d13_6) (fun _ _ => ⟨rfl, rfl, (by decide : 1 + 1 ≤ _), (by decide : 5 + 5 ≤ _)⟩)
    dsimp only [Pt.U, Pt.locs, Pt.cells, Pt.slots] at X6 l6 y6 z6 st6 hQ6
    subst y6 z6
    obtain ⟨b6, ws6, rfl, N6q, K6, w6, q6, B6⟩ := hQ6
    have N6 : Fr n0 L6 := by rw [l6]; exact Fr.app N1 N6q
    have Z8 : n0 ≤ T6.heap.size := Nat.le_trans Z2 K6.1
    obtain ⟨fs, hr, hrun, hended, hW, hsame⟩ := X6.leave (v := some (.ref b6)) (fun h => by rw [Bd.returns] at h; cases h) Bd.notSynchronized
    refine ⟨_, _, pre0 _ ?_, hrun, hended, _, _, rfl, ?_, ⟨_, rfl⟩, hW, hsame.mono (by decide) (by decide)⟩
    · show Steps p.tables e below (s₁.setTop (mkF m 0 #[.val (.ref a1), .val (.ref a2), .val (.ref a3)] [])) _
      refine XS.aloadN X0.here hx rfl (hb hby d13_0) rfl rfl ?_
      refine XS.aloadN X0.here hx rfl (hb hby d13_1) rfl rfl ?_
      refine XS.aloadN X0.here hx rfl (hb hby d13_2) rfl rfl ?_
      refine st1.trans ?_
      refine st6.trans ?_
      show Steps p.tables e below (T6.setTop (mkF m 9 #[.val (.ref a1), .val (.ref a2), .val (.ref a3)] [(.ref b6)])) _
      jvm_step X6.here [X6.here.top, hx, (hb hby d13_9), X6.method', Bd.returns, Value.isRef, FieldType.isReference]
      first | (intro acts; rw [hr _ acts rfl rfl rfl]) | rw [hr _ _ rfl rfl rfl]
      exact Steps.refl _
    · show QrmSum Z a1 a2 a3 x s1 y s2 (some pv) h0 n0 _ T6.heap _
      exact ⟨b6, rfl, N6, K1.trans K6 (fun x_ z_ => Or.inr ((w6 x_ z_).2.elim (fun e_ => q1.elim (fun l_ => absurd (w6 x_ z_).1 (by rw [e_]; exact Nat.not_le.mpr l_)) (fun l_ => by rw [e_]; exact l_)) (fun l_ => Nat.le_trans K1.1 l_))), q6.elim (fun e_ => by rw [e_]; exact q1) (fun l_ => l_.imp_right (Nat.le_trans K1.1)), B6⟩
theorem d10_0 : decode c_42 0 = .ok (.aload_n 0, 1) := by decide +kernel
theorem d10_1 : decode c_42 1 = .ok (.getfield 13, 3) := by decide +kernel
theorem d10_4 : decode c_42 4 = .ok (.ifnonnull 9, 3) := by decide +kernel
theorem d10_13 : decode c_42 13 = .ok (.aload_n 0, 1) := by decide +kernel
theorem d10_14 : decode c_42 14 = .ok (.getfield 13, 3) := by decide +kernel
theorem d10_17 : decode c_42 17 = .ok (.areturn, 1) := by decide +kernel
theorem pn_com_example_tipple_tipple_Arithmetic_RunningSum : plainName "com/example/tipple/tipple/Arithmetic$RunningSum" = true := by first | (simp [plainName, overriddenIn]; done) | decide +kernel
theorem ef_rmVaR (m : MethodId) (x0 : Addr) : entryFrame m #[(.ref x0)] 1 = mkF m 0 #[.val (.ref x0)] [] := by first | (simp [entryFrame, mkF, argsToLocals, Value.category]; done) | rfl
def QrmVaR (Z : State) (a1 : Addr) (u : Addr) (h0 : Heap) (n0 : Nat) (v : Option Value) (h : Heap) (L : List Loc) : Prop := v = some (.ref u) ∧ Fr n0 L ∧ h = h0
theorem rmVaR (l : Launch) (Z : State) (a0 : Array Value) (hw : ∀ d ∈ tables_1, d.before a0 Z = true) (ws : List Jvm.Cond) (a1 : Addr) (u : Addr) (h0 : Heap) (n0 : Nat) (Z0 : n0 ≤ h0.size) (Fv : Fld Z h0 a1 "com/example/tipple/tipple/Arithmetic$RunningSum" "value" "Ljava/math/BigDecimal;" (.ref u)) :
    MetFree l m_2 (head1 (Jvm.Cond.code m_2 prog_8_method_3_code 1 (some (.object "java/math/BigDecimal")) :: ws) ({ frames := 0, cells := 0, slots := 0, locals := 0 } : Room)) (fun a U => a = #[(.ref a1)] ∧ Z.Warmed39 U.vm ∧ U.heap = h0) (fun _ _ _ _ _ => True) (fun _ U o U' => ∃ v L, o = .returned v ∧ QrmVaR Z a1 u h0 n0 v U'.heap L ∧ FrameEnd U o U' L ({ frames := 0, cells := 0, slots := 0, locals := 0 } : Room).cells ({ frames := 0, cells := 0, slots := 0, locals := 0 } : Room).slots) := by
  refine MetFree.of_bodySF (plainFor_of_name pn_com_example_tipple_tipple_Arithmetic_RunningSum) hisR ?_
  intro p e s m args below meth c s₁ Bd hml0 hP hK
  obtain ⟨rfl, hZ, hh⟩ := hP
  have hx := Bd.exec
  have hby := Bd.bytes
  have hml : c.maxLocals = 1 := hml0
  have hown : s.vm.findClass "com/example/tipple/tipple/Arithmetic$RunningSum" = some m.cls := findClass_of_methodNamed Bd.named
  have hnm := (name_of_methodNamed Bd.named Bd.method).1
  have X0 : Stand p l e ({ frames := 0, cells := 0, slots := 0, locals := 0 } : Room) s m #[(.ref a1)] below meth c s₁ [] 0 0 := Stand.of_body Bd
  have e0 : s₁.heap = h0 := by rw [← hh, Bd.state]; rfl
  have N0 := Fr.nil n0
  have pre0 : ∀ t, Steps p.tables e below (s₁.setTop (mkF m 0 #[.val (.ref a1)] [])) t → Steps p.tables e below (s₁.setTop (entryFrame m #[(.ref a1)] 1)) t := fun t k => castTop (ef_rmVaR m a1) k
  obtain ⟨T1, X1, e1, st1⟩ := getF X0 hx hZ hown (host := "") (Or.inl (own_w hw 66 rfl)) Via.refl e0 Fv (g := (mkF m 1 #[.val (.ref a1)] [(.ref a1)])) rfl rfl (hb hby d10_1)
  obtain ⟨T2, X2, e2, st2⟩ := getF X1 hx hZ hown (host := "") (Or.inl (own_w hw 66 rfl)) Via.refl e1 Fv (g := (mkF m 14 #[.val (.ref a1)] [(.ref a1)])) rfl rfl (hb hby d10_14)
  obtain ⟨fs, hr, hrun, hended, hW, hsame⟩ := X2.leave (v := some (.ref u)) (fun h => by rw [Bd.returns] at h; cases h) Bd.notSynchronized
  refine ⟨_, _, pre0 _ ?_, hrun, hended, _, _, rfl, ?_, ⟨_, rfl⟩, hW, hsame.mono (by decide) (by decide)⟩
  · show Steps p.tables e below (s₁.setTop (mkF m 0 #[.val (.ref a1)] [])) _
    refine XS.aloadN X0.here hx rfl (hb hby d10_0) rfl rfl ?_
    refine st1 _ ?_
    refine XS.ifnonnullYes X1.here hx rfl (pc0 := 4) (pc' := 13) rfl (hb hby d10_4) rfl (by decide) (by decide) ?_
    refine XS.aloadN X1.here hx rfl (hb hby d10_13) rfl rfl ?_
    refine st2 _ ?_
    show Steps p.tables e below (T2.setTop (mkF m 17 #[.val (.ref a1)] [(.ref u)])) _
    jvm_step X2.here [X2.here.top, hx, (hb hby d10_17), X2.method', Bd.returns, Value.isRef, FieldType.isReference]
    first | (intro acts; rw [hr _ acts rfl rfl rfl]) | rw [hr _ _ rfl rfl rfl]
    exact Steps.refl _
  · show QrmVaR Z a1 u h0 n0 _ T2.heap _
    rw [e2]
    exact ⟨rfl, N0, rfl⟩
theorem d10_7 : decode c_42 7 = .ok (.getstatic 23, 3) := by decide +kernel
theorem d10_10 : decode c_42 10 = .ok (.goto 7, 3) := by decide +kernel
theorem ef_rmVaN (m : MethodId) (x0 : Addr) : entryFrame m #[(.ref x0)] 1 = mkF m 0 #[.val (.ref x0)] [] := by first | (simp [entryFrame, mkF, argsToLocals, Value.category]; done) | rfl
def QrmVaN (Z : State) (a1 : Addr)  (h0 : Heap) (n0 : Nat) (v : Option Value) (h : Heap) (L : List Loc) : Prop := ∃ b, v = some (.ref b) ∧ Fr n0 L ∧ h = h0 ∧ own_BD Z h0 b 0 0
theorem rmVaN (l : Launch) (Z : State) (a0 : Array Value) (hw : ∀ d ∈ tables_1, d.before a0 Z = true) (ws : List Jvm.Cond) (a1 : Addr)  (h0 : Heap) (n0 : Nat) (Z0 : n0 ≤ h0.size) (J : own_J Z) (O0 : Old Z n0 h0) (Fv : Fld Z h0 a1 "com/example/tipple/tipple/Arithmetic$RunningSum" "value" "Ljava/math/BigDecimal;" .null) :
    MetFree l m_2 (head1 (Jvm.Cond.code m_2 prog_8_method_3_code 1 (some (.object "java/math/BigDecimal")) :: ws) ({ frames := 0, cells := 0, slots := 0, locals := 0 } : Room)) (fun a U => a = #[(.ref a1)] ∧ Z.Warmed39 U.vm ∧ U.heap = h0) (fun _ _ _ _ _ => True) (fun _ U o U' => ∃ v L, o = .returned v ∧ QrmVaN Z a1  h0 n0 v U'.heap L ∧ FrameEnd U o U' L ({ frames := 0, cells := 0, slots := 0, locals := 0 } : Room).cells ({ frames := 0, cells := 0, slots := 0, locals := 0 } : Room).slots) := by
  refine MetFree.of_bodySF (plainFor_of_name pn_com_example_tipple_tipple_Arithmetic_RunningSum) hisR ?_
  intro p e s m args below meth c s₁ Bd hml0 hP hK
  obtain ⟨rfl, hZ, hh⟩ := hP
  have hx := Bd.exec
  have hby := Bd.bytes
  have hml : c.maxLocals = 1 := hml0
  have hown : s.vm.findClass "com/example/tipple/tipple/Arithmetic$RunningSum" = some m.cls := findClass_of_methodNamed Bd.named
  have hnm := (name_of_methodNamed Bd.named Bd.method).1
  have X0 : Stand p l e ({ frames := 0, cells := 0, slots := 0, locals := 0 } : Room) s m #[(.ref a1)] below meth c s₁ [] 0 0 := Stand.of_body Bd
  have e0 : s₁.heap = h0 := by rw [← hh, Bd.state]; rfl
  have N0 := Fr.nil n0
  have pre0 : ∀ t, Steps p.tables e below (s₁.setTop (mkF m 0 #[.val (.ref a1)] [])) t → Steps p.tables e below (s₁.setTop (entryFrame m #[(.ref a1)] 1)) t := fun t k => castTop (ef_rmVaN m a1) k
  obtain ⟨bz, sZ, Bz⟩ := J.zero
  obtain ⟨T1, X1, e1, st1⟩ := getF X0 hx hZ hown (host := "") (Or.inl (own_w hw 66 rfl)) Via.refl e0 Fv (g := (mkF m 1 #[.val (.ref a1)] [(.ref a1)])) rfl rfl (hb hby d10_1)
  have f2 := sZ.ext O0.2
  obtain ⟨T3, X3, e3, st3⟩ := getS2 X1 hx hZ hown (host := "") (Or.inl (own_w hw 68 rfl)) Via.refl e1 f2 (g := (mkF m 7 #[.val (.ref a1)] [])) rfl (hb hby d10_7)
  obtain ⟨fs, hr, hrun, hended, hW, hsame⟩ := X3.leave (v := some (.ref bz)) (fun h => by rw [Bd.returns] at h; cases h) Bd.notSynchronized
  refine ⟨_, _, pre0 _ ?_, hrun, hended, _, _, rfl, ?_, ⟨_, rfl⟩, hW, hsame.mono (by decide) (by decide)⟩
  · show Steps p.tables e below (s₁.setTop (mkF m 0 #[.val (.ref a1)] [])) _
    refine XS.aloadN X0.here hx rfl (hb hby d10_0) rfl rfl ?_
    refine st1 _ ?_
    refine XS.ifnonnullNo X1.here hx rfl (hb hby d10_4) rfl ?_
    refine st3 _ ?_
    refine XS.goto X3.here hx rfl (pc0 := 10) (pc' := 17) rfl (hb hby d10_10) (by decide) (by decide) ?_
    show Steps p.tables e below (T3.setTop (mkF m 17 #[.val (.ref a1)] [(.ref bz)])) _
    jvm_step X3.here [X3.here.top, hx, (hb hby d10_17), X3.method', Bd.returns, Value.isRef, FieldType.isReference]
    first | (intro acts; rw [hr _ acts rfl rfl rfl]) | rw [hr _ _ rfl rfl rfl]
    exact Steps.refl _
  · show QrmVaN Z a1  h0 n0 _ T3.heap _
    rw [e3]
    exact ⟨bz, rfl, N0, rfl, Bz.ext O0.2⟩
theorem d12_0 : decode c_41 0 = .ok (.aload_n 0, 1) := by decide +kernel
theorem d12_1 : decode c_41 1 = .ok (.getfield 13, 3) := by decide +kernel
theorem d12_4 : decode c_41 4 = .ok (.ifnonnull 11, 3) := by decide +kernel
theorem d12_7 : decode c_41 7 = .ok (.aload_n 0, 1) := by decide +kernel
theorem d12_8 : decode c_41 8 = .ok (.aload_n 1, 1) := by decide +kernel
theorem d12_9 : decode c_41 9 = .ok (.putfield 13, 3) := by decide +kernel
theorem d12_12 : decode c_41 12 = .ok (.goto 19, 3) := by decide +kernel
theorem d12_31 : decode c_41 31 = .ok (.return_, 1) := by decide +kernel
theorem ef_rmRa1 (m : MethodId) (x0 : Addr) (x1 : Addr) : entryFrame m #[(.ref x0), (.ref x1)] 2 = mkF m 0 #[.val (.ref x0), .val (.ref x1)] [] := by first | (simp [entryFrame, mkF, argsToLocals, Value.category]; done) | rfl
def QrmRa1 (Z : State) (a1 : Addr) (a2 : Addr) (ar : Addr) (h0 : Heap) (n0 : Nat) (v : Option Value) (h : Heap) (L : List Loc) : Prop := v = none ∧ Fr n0 L ∧ Keep h0 h [a1] ∧ Exa Z h a1 "com/example/tipple/tipple/Arithmetic$RunningSum" ∧ Fld Z h a1 "com/example/tipple/tipple/Arithmetic$RunningSum" "value" "Ljava/math/BigDecimal;" (.ref a2) ∧ Fld Z h a1 "com/example/tipple/tipple/Arithmetic$RunningSum" "this$0" "Lcom/example/tipple/tipple/Arithmetic;" (.ref ar)
theorem rmRa1 (l : Launch) (Z : State) (a0 : Array Value) (hw : ∀ d ∈ tables_1, d.before a0 Z = true) (ws : List Jvm.Cond) (a1 : Addr) (a2 : Addr) (ar : Addr) (h0 : Heap) (n0 : Nat) (Z0 : n0 ≤ h0.size) (E1 : Exa Z h0 a1 "com/example/tipple/tipple/Arithmetic$RunningSum") (g_a1 : n0 ≤ a1) (Fv : Fld Z h0 a1 "com/example/tipple/tipple/Arithmetic$RunningSum" "value" "Ljava/math/BigDecimal;" .null) (Ft : Fld Z h0 a1 "com/example/tipple/tipple/Arithmetic$RunningSum" "this$0" "Lcom/example/tipple/tipple/Arithmetic;" (.ref ar)) :
    MetFree l m_3 (head1 (Jvm.Cond.code m_3 prog_8_method_2_code 2 none :: ws) ({ frames := 0, cells := 0, slots := 0, locals := 0 } : Room)) (fun a U => a = #[(.ref a1), (.ref a2)] ∧ Z.Warmed39 U.vm ∧ U.heap = h0) (fun _ _ _ _ _ => True) (fun _ U o U' => ∃ v L, o = .returned v ∧ QrmRa1 Z a1 a2 ar h0 n0 v U'.heap L ∧ FrameEnd U o U' L ({ frames := 0, cells := 0, slots := 0, locals := 0 } : Room).cells ({ frames := 0, cells := 0, slots := 0, locals := 0 } : Room).slots) := by
  refine MetFree.of_bodySF (plainFor_of_name pn_com_example_tipple_tipple_Arithmetic_RunningSum) hisR ?_
  intro p e s m args below meth c s₁ Bd hml0 hP hK
  obtain ⟨rfl, hZ, hh⟩ := hP
  have hx := Bd.exec
  have hby := Bd.bytes
  have hml : c.maxLocals = 2 := hml0
  have hown : s.vm.findClass "com/example/tipple/tipple/Arithmetic$RunningSum" = some m.cls := findClass_of_methodNamed Bd.named
  have hnm := (name_of_methodNamed Bd.named Bd.method).1
  have X0 : Stand p l e ({ frames := 0, cells := 0, slots := 0, locals := 0 } : Room) s m #[(.ref a1), (.ref a2)] below meth c s₁ [] 0 0 := Stand.of_body Bd
  have e0 : s₁.heap = h0 := by rw [← hh, Bd.state]; rfl
  have N0 := Fr.nil n0
  have pre0 : ∀ t, Steps p.tables e below (s₁.setTop (mkF m 0 #[.val (.ref a1), .val (.ref a2)] [])) t → Steps p.tables e below (s₁.setTop (entryFrame m #[(.ref a1), (.ref a2)] 2)) t := fun t k => castTop (ef_rmRa1 m a1 a2) k
  obtain ⟨T1, X1, e1, st1⟩ := getF X0 hx hZ hown (host := "") (Or.inl (own_w hw 66 rfl)) Via.refl e0 Fv (g := (mkF m 1 #[.val (.ref a1), .val (.ref a2)] [(.ref a1)])) rfl rfl (hb hby d12_1)
  obtain ⟨T2, h2, X2, e2, W2, st2⟩ := putF X1 hx hZ hown (host := "") (Or.inl (own_w hw 66 rfl)) Via.refl e1 Fv E1 (Or.inl (own_w hw 67 rfl)) (own_w hw 49 rfl) (ty := (.object "java/math/BigDecimal")) (by decide) rfl rfl (g := (mkF m 9 #[.val (.ref a1), .val (.ref a2)] [(.ref a2), (.ref a1)])) rfl rfl (hb hby d12_9)
  have Z3 : n0 ≤ h2.size := Nat.le_trans Z0 (Keep.of_wr W2).1
  have Fw2 := Fv.same W2
  have N2 := Fr.snoc X2 N0 g_a1
  have f4 := E1.wr W2
  have f5 := Ft.other W2 (Or.inr (slot_ne (Or.inr (own_w hw 59 rfl)) (Or.inl (own_w hw 67 rfl)) (by decide) (t := (.object "com/example/tipple/tipple/Arithmetic")) (t' := (.object "java/math/BigDecimal")) (by decide) (by decide)))
  obtain ⟨fs, hr, hrun, hended, hW, hsame⟩ := X2.leave (v := none) (fun _ => rfl) Bd.notSynchronized
  refine ⟨_, _, pre0 _ ?_, hrun, hended, _, _, rfl, ?_, ⟨_, rfl⟩, hW, hsame.mono (by decide) (by decide)⟩
  · show Steps p.tables e below (s₁.setTop (mkF m 0 #[.val (.ref a1), .val (.ref a2)] [])) _
    refine XS.aloadN X0.here hx rfl (hb hby d12_0) rfl rfl ?_
    refine st1 _ ?_
    refine XS.ifnonnullNo X1.here hx rfl (hb hby d12_4) rfl ?_
    refine XS.aloadN X1.here hx rfl (hb hby d12_7) rfl rfl ?_
    refine XS.aloadN X1.here hx rfl (hb hby d12_8) rfl rfl ?_
    refine st2 _ ?_
    refine XS.goto X2.here hx rfl (pc0 := 12) (pc' := 31) rfl (hb hby d12_12) (by decide) (by decide) ?_
    show Steps p.tables e below (T2.setTop (mkF m 31 #[.val (.ref a1), .val (.ref a2)] [])) _
    exact X2.returnOut hx Bd.returns (hb hby d12_31) hr
  · show QrmRa1 Z a1 a2 ar h0 n0 _ T2.heap _
    rw [e2]
    exact ⟨rfl, N2, ((Keep.refl h0 [a1]).wr W2 (Or.inl (List.mem_of_getElem? (i := 0) rfl))), f4, Fw2, f5⟩
theorem d12_15 : decode c_41 15 = .ok (.aload_n 0, 1) := by decide +kernel
theorem d12_16 : decode c_41 16 = .ok (.aload_n 0, 1) := by decide +kernel
theorem d12_17 : decode c_41 17 = .ok (.getfield 1, 3) := by decide +kernel
theorem d12_20 : decode c_41 20 = .ok (.aload_n 0, 1) := by decide +kernel
theorem d12_21 : decode c_41 21 = .ok (.getfield 13, 3) := by decide +kernel
theorem d12_24 : decode c_41 24 = .ok (.aload_n 1, 1) := by decide +kernel
theorem d12_25 : decode c_41 25 = .ok (.invokevirtual 17, 3) := by decide +kernel
theorem pd_22 : parseMethodDescriptor "(Ljava/math/BigDecimal;Ljava/math/BigDecimal;)Ljava/math/BigDecimal;" = some ⟨[(.object "java/math/BigDecimal"), (.object "java/math/BigDecimal")], some (.object "java/math/BigDecimal")⟩ := by decide +kernel
theorem d12_28 : decode c_41 28 = .ok (.putfield 13, 3) := by decide +kernel
theorem ef_rmRa2 (m : MethodId) (x0 : Addr) (x1 : Addr) : entryFrame m #[(.ref x0), (.ref x1)] 2 = mkF m 0 #[.val (.ref x0), .val (.ref x1)] [] := by first | (simp [entryFrame, mkF, argsToLocals, Value.category]; done) | rfl
def QrmRa2 (Z : State) (a1 : Addr) (a3 : Addr) (u ar : Addr) (x : Int64) (s1 : Int32) (y : Int64) (s2 : Int32) (oo : Option Int32) (h0 : Heap) (n0 : Nat) (v : Option Value) (h : Heap) (L : List Loc) : Prop := ∃ b, v = none ∧ Fr n0 L ∧ Keep h0 h [a1] ∧ Exa Z h a1 "com/example/tipple/tipple/Arithmetic$RunningSum" ∧ Fld Z h a1 "com/example/tipple/tipple/Arithmetic$RunningSum" "value" "Ljava/math/BigDecimal;" (.ref b) ∧ own_BD Z h b (own_os oo (own_U x s1 y s2) (own_max s1 s2)) (own_oz oo (own_U x s1 y s2) (own_max s1 s2))
theorem rmRa2 (l : Launch) (Z : State) (a0 : Array Value) (hw : ∀ d ∈ tables_1, d.before a0 Z = true) (ws : List Jvm.Cond) (a1 : Addr) (a3 : Addr) (u ar : Addr) (x : Int64) (s1 : Int32) (y : Int64) (s2 : Int32) (oo : Option Int32) (h0 : Heap) (n0 : Nat) (Z0 : n0 ≤ h0.size) (J : own_J Z) (O0 : Old Z n0 h0) (E1 : Exa Z h0 a1 "com/example/tipple/tipple/Arithmetic$RunningSum") (g_a1 : n0 ≤ a1) (Fv : Fld Z h0 a1 "com/example/tipple/tipple/Arithmetic$RunningSum" "value" "Ljava/math/BigDecimal;" (.ref u)) (Ft : Fld Z h0 a1 "com/example/tipple/tipple/Arithmetic$RunningSum" "this$0" "Lcom/example/tipple/tipple/Arithmetic;" (.ref ar)) (Ear : Exa Z h0 ar "com/example/tipple/tipple/Arithmetic") (HP : own_PL Z h0 ar oo) (B1 : own_BD Z h0 u s1 x) (B2 : own_BD Z h0 a3 s2 y) (hx_ : own_X x) (hy_ : own_X y) (hs1 : own_S8 s1) (hs2 : own_S8 s2) :
    MetFree l m_3 (head1 (Jvm.Cond.code m_3 prog_8_method_2_code 2 none :: ws) ({ frames := 11, cells := 2, slots := 10, locals := 169 } : Room)) (fun a U => a = #[(.ref a1), (.ref a3)] ∧ Z.Warmed39 U.vm ∧ U.heap = h0) (fun _ _ _ _ _ => True) (fun _ U o U' => ∃ v L, o = .returned v ∧ QrmRa2 Z a1 a3 u ar x s1 y s2 oo h0 n0 v U'.heap L ∧ FrameEnd U o U' L ({ frames := 11, cells := 2, slots := 10, locals := 169 } : Room).cells ({ frames := 11, cells := 2, slots := 10, locals := 169 } : Room).slots) := by
  refine MetFree.of_bodySF (plainFor_of_name pn_com_example_tipple_tipple_Arithmetic_RunningSum) hisR ?_
  intro p e s m args below meth c s₁ Bd hml0 hP hK
  obtain ⟨rfl, hZ, hh⟩ := hP
  have hx := Bd.exec
  have hby := Bd.bytes
  have hml : c.maxLocals = 2 := hml0
  have hown : s.vm.findClass "com/example/tipple/tipple/Arithmetic$RunningSum" = some m.cls := findClass_of_methodNamed Bd.named
  have hnm := (name_of_methodNamed Bd.named Bd.method).1
  have X0 : Stand p l e ({ frames := 11, cells := 2, slots := 10, locals := 169 } : Room) s m #[(.ref a1), (.ref a3)] below meth c s₁ [] 0 0 := Stand.of_body Bd
  have e0 : s₁.heap = h0 := by rw [← hh, Bd.state]; rfl
  have N0 := Fr.nil n0
  have pre0 : ∀ t, Steps p.tables e below (s₁.setTop (mkF m 0 #[.val (.ref a1), .val (.ref a3)] [])) t → Steps p.tables e below (s₁.setTop (entryFrame m #[(.ref a1), (.ref a3)] 2)) t := fun t k => castTop (ef_rmRa2 m a1 a3) k
  obtain ⟨T1, X1, e1, st1⟩ := getF X0 hx hZ hown (host := "") (Or.inl (own_w hw 66 rfl)) Via.refl e0 Fv (g := (mkF m 1 #[.val (.ref a1), .val (.ref a3)] [(.ref a1)])) rfl rfl (hb hby d12_1)
  obtain ⟨T2, X2, e2, st2⟩ := getF X1 hx hZ hown (host := "") (Or.inl (own_w hw 58 rfl)) Via.refl e1 Ft (g := (mkF m 17 #[.val (.ref a1), .val (.ref a3)] [(.ref a1), (.ref a1)])) rfl rfl (hb hby d12_17)
  obtain ⟨T3, X3, e3, st3⟩ := getF X2 hx hZ hown (host := "") (Or.inl (own_w hw 66 rfl)) Via.refl e2 Fv (g := (mkF m 21 #[.val (.ref a1), .val (.ref a3)] [(.ref a1), (.ref ar), (.ref a1)])) rfl rfl (hb hby d12_21)
  obtain ⟨cq4, kq4, q4a, q4b, q4c⟩ := isOf hZ e3 Ear
  obtain ⟨_, _, ⟨T4, L4, k4, n4⟩, -, X4, ⟨Lc4, hQ4, l4, y4, z4⟩, st4⟩ := X3.virtualBack hx (y := m_30) (z := m_30) hown (mvT hZ (own_w hw 79 rfl)) (mvT hZ (own_w hw 80 rfl)) (notFace_of_selects (args := #[]) (mvT hZ (own_w hw 82 rfl))) (mvT hZ (own_w hw 82 rfl)) (mvT hZ (own_w hw 81 rfl)) (by decide) (backOf (W := 1) (rmSum l Z a0 hw [] ar u a3 x s1 y s2 oo h0 n0 Z0 J O0 Ear HP B1 B2 hx_ hy_ hs1 hs2) hZ (own_w hw 83 rfl) (own_w hw 41 rfl) (by decide) (by decide)) q4a q4c (g := (mkF m 25 #[.val (.ref a1), .val (.ref a3)] [(.ref a3), (.ref u), (.ref ar), (.ref a1)])) rfl (by rw [hml]; rfl) (Steps.refl _) (argsL := [(.ref u), (.ref a3)]) (rest := [(.ref a1)]) (lenOf pd_22 rfl) rfl (by show 2 * 0 + _ ≤ _; exact Nat.le_of_eq rfl) (hb hby d12_25) (fun _ _ => ⟨rfl, e3, (by decide : 0 + 2 ≤ _), (by decide : 0 + 10 ≤ _)⟩)
  dsimp only [Pt.U, Pt.locs, Pt.cells, Pt.slots] at X4 l4 y4 z4 st4 hQ4
  subst y4 z4
  obtain ⟨b4, rfl, N4q, K4, q4, B4⟩ := hQ4
  have N4 : Fr n0 L4 := by rw [l4]; exact Fr.app N0 N4q
  have Z5 : n0 ≤ T4.heap.size := Nat.le_trans Z0 K4.1
  have ne_ab : b4 ≠ a1 := q4.elim (fun l_ => Nat.ne_of_lt (Nat.lt_of_lt_of_le l_ g_a1)) (fun l_ => Nat.ne_of_gt (Nat.lt_of_lt_of_le E1.lt l_))
  have f6 := Fv.keep K4 nin0
  have f7 := E1.keep K4
  obtain ⟨T8, h8, X8, e8, W8, st8⟩ := putF X4 hx hZ hown (host := "") (Or.inl (own_w hw 66 rfl)) Via.refl rfl f6 f7 (Or.inl (own_w hw 67 rfl)) (own_w hw 49 rfl) (ty := (.object "java/math/BigDecimal")) (by decide) rfl rfl (g := (mkF m 28 #[.val (.ref a1), .val (.ref a3)] [(.ref b4), (.ref a1)])) rfl rfl (hb hby d12_28)
  have Z9 : n0 ≤ h8.size := Nat.le_trans Z5 (Keep.of_wr W8).1
  have Fw8 := f6.same W8
  have N8 := Fr.snoc X8 N4 g_a1
  have f10 := f7.wr W8
  have f11 := B4.1.wr W8
  have f12 := B4.2.1.other W8 (Or.inl ne_ab)
  have f13 := B4.2.2.other W8 (Or.inl ne_ab)
  obtain ⟨fs, hr, hrun, hended, hW, hsame⟩ := X8.leave (v := none) (fun _ => rfl) Bd.notSynchronized
  refine ⟨_, _, pre0 _ ?_, hrun, hended, _, _, rfl, ?_, ⟨_, rfl⟩, hW, hsame.mono (by decide) (by decide)⟩
  · show Steps p.tables e below (s₁.setTop (mkF m 0 #[.val (.ref a1), .val (.ref a3)] [])) _
    refine XS.aloadN X0.here hx rfl (hb hby d12_0) rfl rfl ?_
    refine st1 _ ?_
    refine XS.ifnonnullYes X1.here hx rfl (pc0 := 4) (pc' := 15) rfl (hb hby d12_4) rfl (by decide) (by decide) ?_
    refine XS.aloadN X1.here hx rfl (hb hby d12_15) rfl rfl ?_
    refine XS.aloadN X1.here hx rfl (hb hby d12_16) rfl rfl ?_
    refine st2 _ ?_
    refine XS.aloadN X2.here hx rfl (hb hby d12_20) rfl rfl ?_
    refine st3 _ ?_
    refine XS.aloadN X3.here hx rfl (hb hby d12_24) rfl rfl ?_
    refine st4.trans ?_
    refine st8 _ ?_
    show Steps p.tables e below (T8.setTop (mkF m 31 #[.val (.ref a1), .val (.ref a3)] [])) _
    exact X8.returnOut hx Bd.returns (hb hby d12_31) hr
  · show QrmRa2 Z a1 a3 u ar x s1 y s2 oo h0 n0 _ T8.heap _
    rw [e8]
    exact ⟨b4, rfl, N8, (((Keep.refl h0 [a1]).trans K4 all0).wr W8 (Or.inl (List.mem_of_getElem? (i := 0) rfl))), f10, Fw8, f11, f12, f13⟩
theorem d7_0 : decode c_37 0 = .ok (.aload_n 0, 1) := by decide +kernel
theorem d7_1 : decode c_37 1 = .ok (.invokespecial 1, 3) := by decide +kernel
theorem d7_4 : decode c_37 4 = .ok (.aload_n 0, 1) := by decide +kernel
theorem d7_5 : decode c_37 5 = .ok (.aload_n 1, 1) := by decide +kernel
theorem d7_6 : decode c_37 6 = .ok (.putfield 7, 3) := by decide +kernel
theorem d7_9 : decode c_37 9 = .ok (.return_, 1) := by decide +kernel
theorem ef_rmArN (m : MethodId) (x0 : Addr) : entryFrame m #[(.ref x0), .null] 2 = mkF m 0 #[.val (.ref x0), .val .null] [] := by first | (simp [entryFrame, mkF, argsToLocals, Value.category]; done) | rfl
def QrmArN (Z : State) (a1 : Addr)  (h0 : Heap) (n0 : Nat) (v : Option Value) (h : Heap) (L : List Loc) : Prop := v = none ∧ Fr n0 L ∧ Keep h0 h [a1] ∧ Exa Z h a1 "com/example/tipple/tipple/Arithmetic" ∧ Fld Z h a1 "com/example/tipple/tipple/Arithmetic" "places" "Ljava/lang/Integer;" .null
theorem rmArN (l : Launch) (Z : State) (a0 : Array Value) (hw : ∀ d ∈ tables_1, d.before a0 Z = true) (ws : List Jvm.Cond) (a1 : Addr)  (h0 : Heap) (n0 : Nat) (Z0 : n0 ≤ h0.size) (E1 : Exa Z h0 a1 "com/example/tipple/tipple/Arithmetic") (g_a1 : n0 ≤ a1) (Fp : Fld Z h0 a1 "com/example/tipple/tipple/Arithmetic" "places" "Ljava/lang/Integer;" .null) :
    MetFree l m_12 (head1 (Jvm.Cond.code m_12 prog_7_method_1_code 2 none :: ws) ({ frames := 1, cells := 0, slots := 0, locals := 12 } : Room)) (fun a U => a = #[(.ref a1), .null] ∧ Z.Warmed39 U.vm ∧ U.heap = h0) (fun _ _ _ _ _ => True) (fun _ U o U' => ∃ v L, o = .returned v ∧ QrmArN Z a1  h0 n0 v U'.heap L ∧ FrameEnd U o U' L ({ frames := 1, cells := 0, slots := 0, locals := 12 } : Room).cells ({ frames := 1, cells := 0, slots := 0, locals := 12 } : Room).slots) := by
  refine MetFree.of_bodySF (plainFor_of_name pn_com_example_tipple_tipple_Arithmetic) hisR ?_
  intro p e s m args below meth c s₁ Bd hml0 hP hK
  obtain ⟨rfl, hZ, hh⟩ := hP
  have hx := Bd.exec
  have hby := Bd.bytes
  have hml : c.maxLocals = 2 := hml0
  have hown : s.vm.findClass "com/example/tipple/tipple/Arithmetic" = some m.cls := findClass_of_methodNamed Bd.named
  have hnm := (name_of_methodNamed Bd.named Bd.method).1
  have X0 : Stand p l e ({ frames := 1, cells := 0, slots := 0, locals := 12 } : Room) s m #[(.ref a1), .null] below meth c s₁ [] 0 0 := Stand.of_body Bd
  have e0 : s₁.heap = h0 := by rw [← hh, Bd.state]; rfl
  have N0 := Fr.nil n0
  have pre0 : ∀ t, Steps p.tables e below (s₁.setTop (mkF m 0 #[.val (.ref a1), .val .null] [])) t → Steps p.tables e below (s₁.setTop (entryFrame m #[(.ref a1), .null] 2)) t := fun t k => castTop (ef_rmArN m a1) k
  obtain ⟨T1, X1, e1, st1⟩ := initO X0 hx hZ hown (own_w hw 45 rfl) (own_w hw 29 rfl) (own_w hw 30 rfl) e0 (g := (mkF m 1 #[.val (.ref a1), .val .null] [(.ref a1)])) rfl (by rw [hml]; rfl) rfl (hb hby d7_1) (by decide) (W := 0) (by show 2 * 0 + _ ≤ _; exact Nat.le_of_eq rfl) (by decide)
  obtain ⟨T2, h2, X2, e2, W2, st2⟩ := putF X1 hx hZ hown (host := "") (Or.inl (own_w hw 46 rfl)) Via.refl e1 Fp E1 (Or.inr ⟨(own_w hw 47 rfl), rfl, hnm⟩) (own_w hw 40 rfl) (ty := (.object "java/lang/Integer")) (by decide) rfl rfl (g := (mkF m 6 #[.val (.ref a1), .val .null] [.null, (.ref a1)])) rfl rfl (hb hby d7_6)
  have Z3 : n0 ≤ h2.size := Nat.le_trans Z0 (Keep.of_wr W2).1
  have Fw2 := Fp.same W2
  have N2 := Fr.snoc X2 N0 g_a1
  have f4 := E1.wr W2
  obtain ⟨fs, hr, hrun, hended, hW, hsame⟩ := X2.leave (v := none) (fun _ => rfl) Bd.notSynchronized
  refine ⟨_, _, pre0 _ ?_, hrun, hended, _, _, rfl, ?_, ⟨_, rfl⟩, hW, hsame.mono (by decide) (by decide)⟩
  · show Steps p.tables e below (s₁.setTop (mkF m 0 #[.val (.ref a1), .val .null] [])) _
    refine XS.aloadN X0.here hx rfl (hb hby d7_0) rfl rfl ?_
    refine st1 _ ?_
    refine XS.aloadN X1.here hx rfl (hb hby d7_4) rfl rfl ?_
    refine XS.aloadN X1.here hx rfl (hb hby d7_5) rfl rfl ?_
    refine st2 _ ?_
    show Steps p.tables e below (T2.setTop (mkF m 9 #[.val (.ref a1), .val .null] [])) _
    exact X2.returnOut hx Bd.returns (hb hby d7_9) hr
  · show QrmArN Z a1  h0 n0 _ T2.heap _
    rw [e2]
    exact ⟨rfl, N2, ((Keep.refl h0 [a1]).wr W2 (Or.inl (List.mem_of_getElem? (i := 0) rfl))), f4, Fw2⟩
theorem ef_rmArR (m : MethodId) (x0 : Addr) (x1 : Addr) : entryFrame m #[(.ref x0), (.ref x1)] 2 = mkF m 0 #[.val (.ref x0), .val (.ref x1)] [] := by first | (simp [entryFrame, mkF, argsToLocals, Value.category]; done) | rfl
def QrmArR (Z : State) (a1 : Addr) (a2 : Addr)  (h0 : Heap) (n0 : Nat) (v : Option Value) (h : Heap) (L : List Loc) : Prop := v = none ∧ Fr n0 L ∧ Keep h0 h [a1] ∧ Exa Z h a1 "com/example/tipple/tipple/Arithmetic" ∧ Fld Z h a1 "com/example/tipple/tipple/Arithmetic" "places" "Ljava/lang/Integer;" (.ref a2)
theorem rmArR (l : Launch) (Z : State) (a0 : Array Value) (hw : ∀ d ∈ tables_1, d.before a0 Z = true) (ws : List Jvm.Cond) (a1 : Addr) (a2 : Addr)  (h0 : Heap) (n0 : Nat) (Z0 : n0 ≤ h0.size) (E1 : Exa Z h0 a1 "com/example/tipple/tipple/Arithmetic") (g_a1 : n0 ≤ a1) (Fp : Fld Z h0 a1 "com/example/tipple/tipple/Arithmetic" "places" "Ljava/lang/Integer;" .null) :
    MetFree l m_12 (head1 (Jvm.Cond.code m_12 prog_7_method_1_code 2 none :: ws) ({ frames := 1, cells := 0, slots := 0, locals := 12 } : Room)) (fun a U => a = #[(.ref a1), (.ref a2)] ∧ Z.Warmed39 U.vm ∧ U.heap = h0) (fun _ _ _ _ _ => True) (fun _ U o U' => ∃ v L, o = .returned v ∧ QrmArR Z a1 a2  h0 n0 v U'.heap L ∧ FrameEnd U o U' L ({ frames := 1, cells := 0, slots := 0, locals := 12 } : Room).cells ({ frames := 1, cells := 0, slots := 0, locals := 12 } : Room).slots) := by
  refine MetFree.of_bodySF (plainFor_of_name pn_com_example_tipple_tipple_Arithmetic) hisR ?_
  intro p e s m args below meth c s₁ Bd hml0 hP hK
  obtain ⟨rfl, hZ, hh⟩ := hP
  have hx := Bd.exec
  have hby := Bd.bytes
  have hml : c.maxLocals = 2 := hml0
  have hown : s.vm.findClass "com/example/tipple/tipple/Arithmetic" = some m.cls := findClass_of_methodNamed Bd.named
  have hnm := (name_of_methodNamed Bd.named Bd.method).1
  have X0 : Stand p l e ({ frames := 1, cells := 0, slots := 0, locals := 12 } : Room) s m #[(.ref a1), (.ref a2)] below meth c s₁ [] 0 0 := Stand.of_body Bd
  have e0 : s₁.heap = h0 := by rw [← hh, Bd.state]; rfl
  have N0 := Fr.nil n0
  have pre0 : ∀ t, Steps p.tables e below (s₁.setTop (mkF m 0 #[.val (.ref a1), .val (.ref a2)] [])) t → Steps p.tables e below (s₁.setTop (entryFrame m #[(.ref a1), (.ref a2)] 2)) t := fun t k => castTop (ef_rmArR m a1 a2) k
  obtain ⟨T1, X1, e1, st1⟩ := initO X0 hx hZ hown (own_w hw 45 rfl) (own_w hw 29 rfl) (own_w hw 30 rfl) e0 (g := (mkF m 1 #[.val (.ref a1), .val (.ref a2)] [(.ref a1)])) rfl (by rw [hml]; rfl) rfl (hb hby d7_1) (by decide) (W := 0) (by show 2 * 0 + _ ≤ _; exact Nat.le_of_eq rfl) (by decide)
  obtain ⟨T2, h2, X2, e2, W2, st2⟩ := putF X1 hx hZ hown (host := "") (Or.inl (own_w hw 46 rfl)) Via.refl e1 Fp E1 (Or.inr ⟨(own_w hw 47 rfl), rfl, hnm⟩) (own_w hw 40 rfl) (ty := (.object "java/lang/Integer")) (by decide) rfl rfl (g := (mkF m 6 #[.val (.ref a1), .val (.ref a2)] [(.ref a2), (.ref a1)])) rfl rfl (hb hby d7_6)
  have Z3 : n0 ≤ h2.size := Nat.le_trans Z0 (Keep.of_wr W2).1
  have Fw2 := Fp.same W2
  have N2 := Fr.snoc X2 N0 g_a1
  have f4 := E1.wr W2
  obtain ⟨fs, hr, hrun, hended, hW, hsame⟩ := X2.leave (v := none) (fun _ => rfl) Bd.notSynchronized
  refine ⟨_, _, pre0 _ ?_, hrun, hended, _, _, rfl, ?_, ⟨_, rfl⟩, hW, hsame.mono (by decide) (by decide)⟩
  · show Steps p.tables e below (s₁.setTop (mkF m 0 #[.val (.ref a1), .val (.ref a2)] [])) _
    refine XS.aloadN X0.here hx rfl (hb hby d7_0) rfl rfl ?_
    refine st1 _ ?_
    refine XS.aloadN X1.here hx rfl (hb hby d7_4) rfl rfl ?_
    refine XS.aloadN X1.here hx rfl (hb hby d7_5) rfl rfl ?_
    refine st2 _ ?_
    show Steps p.tables e below (T2.setTop (mkF m 9 #[.val (.ref a1), .val (.ref a2)] [])) _
    exact X2.returnOut hx Bd.returns (hb hby d7_9) hr
  · show QrmArR Z a1 a2  h0 n0 _ T2.heap _
    rw [e2]
    exact ⟨rfl, N2, ((Keep.refl h0 [a1]).wr W2 (Or.inl (List.mem_of_getElem? (i := 0) rfl))), f4, Fw2⟩
theorem d9_0 : decode c_40 0 = .ok (.aload_n 0, 1) := by decide +kernel
theorem d9_1 : decode c_40 1 = .ok (.aload_n 1, 1) := by decide +kernel
theorem d9_2 : decode c_40 2 = .ok (.putfield 1, 3) := by decide +kernel
theorem d9_5 : decode c_40 5 = .ok (.aload_n 0, 1) := by decide +kernel
theorem d9_6 : decode c_40 6 = .ok (.invokespecial 7, 3) := by decide +kernel
theorem d9_9 : decode c_40 9 = .ok (.return_, 1) := by decide +kernel
theorem ef_rmRsI (m : MethodId) (x0 : Addr) (x1 : Addr) : entryFrame m #[(.ref x0), (.ref x1)] 2 = mkF m 0 #[.val (.ref x0), .val (.ref x1)] [] := by first | (simp [entryFrame, mkF, argsToLocals, Value.category]; done) | rfl
def QrmRsI (Z : State) (a1 : Addr) (a2 : Addr)  (h0 : Heap) (n0 : Nat) (v : Option Value) (h : Heap) (L : List Loc) : Prop := v = none ∧ Fr n0 L ∧ Keep h0 h [a1] ∧ Exa Z h a1 "com/example/tipple/tipple/Arithmetic$RunningSum" ∧ Fld Z h a1 "com/example/tipple/tipple/Arithmetic$RunningSum" "value" "Ljava/math/BigDecimal;" .null ∧ Fld Z h a1 "com/example/tipple/tipple/Arithmetic$RunningSum" "this$0" "Lcom/example/tipple/tipple/Arithmetic;" (.ref a2)
theorem rmRsI (l : Launch) (Z : State) (a0 : Array Value) (hw : ∀ d ∈ tables_1, d.before a0 Z = true) (ws : List Jvm.Cond) (a1 : Addr) (a2 : Addr)  (h0 : Heap) (n0 : Nat) (Z0 : n0 ≤ h0.size) (E1 : Exa Z h0 a1 "com/example/tipple/tipple/Arithmetic$RunningSum") (g_a1 : n0 ≤ a1) (Fv : Fld Z h0 a1 "com/example/tipple/tipple/Arithmetic$RunningSum" "value" "Ljava/math/BigDecimal;" .null) (Ft : Fld Z h0 a1 "com/example/tipple/tipple/Arithmetic$RunningSum" "this$0" "Lcom/example/tipple/tipple/Arithmetic;" .null) :
    MetFree l m_31 (head1 (Jvm.Cond.code m_31 prog_8_method_1_code 2 none :: ws) ({ frames := 1, cells := 0, slots := 0, locals := 12 } : Room)) (fun a U => a = #[(.ref a1), (.ref a2)] ∧ Z.Warmed39 U.vm ∧ U.heap = h0) (fun _ _ _ _ _ => True) (fun _ U o U' => ∃ v L, o = .returned v ∧ QrmRsI Z a1 a2  h0 n0 v U'.heap L ∧ FrameEnd U o U' L ({ frames := 1, cells := 0, slots := 0, locals := 12 } : Room).cells ({ frames := 1, cells := 0, slots := 0, locals := 12 } : Room).slots) := by
  refine MetFree.of_bodySF (plainFor_of_name pn_com_example_tipple_tipple_Arithmetic_RunningSum) hisR ?_
  intro p e s m args below meth c s₁ Bd hml0 hP hK
  obtain ⟨rfl, hZ, hh⟩ := hP
  have hx := Bd.exec
  have hby := Bd.bytes
  have hml : c.maxLocals = 2 := hml0
  have hown : s.vm.findClass "com/example/tipple/tipple/Arithmetic$RunningSum" = some m.cls := findClass_of_methodNamed Bd.named
  have hnm := (name_of_methodNamed Bd.named Bd.method).1
  have X0 : Stand p l e ({ frames := 1, cells := 0, slots := 0, locals := 12 } : Room) s m #[(.ref a1), (.ref a2)] below meth c s₁ [] 0 0 := Stand.of_body Bd
  have e0 : s₁.heap = h0 := by rw [← hh, Bd.state]; rfl
  have N0 := Fr.nil n0
  have pre0 : ∀ t, Steps p.tables e below (s₁.setTop (mkF m 0 #[.val (.ref a1), .val (.ref a2)] [])) t → Steps p.tables e below (s₁.setTop (entryFrame m #[(.ref a1), (.ref a2)] 2)) t := fun t k => castTop (ef_rmRsI m a1 a2) k
  obtain ⟨T1, h1, X1, e1, W1, st1⟩ := putF X0 hx hZ hown (host := "") (Or.inl (own_w hw 58 rfl)) Via.refl e0 Ft E1 (Or.inr ⟨(own_w hw 59 rfl), rfl, hnm⟩) (own_w hw 49 rfl) (ty := (.object "com/example/tipple/tipple/Arithmetic")) (by decide) rfl rfl (g := (mkF m 2 #[.val (.ref a1), .val (.ref a2)] [(.ref a2), (.ref a1)])) rfl rfl (hb hby d9_2)
  have Z2 : n0 ≤ h1.size := Nat.le_trans Z0 (Keep.of_wr W1).1
  have Fw1 := Ft.same W1
  have N1 := Fr.snoc X1 N0 g_a1
  obtain ⟨T3, X3, e3, st3⟩ := initO X1 hx hZ hown (own_w hw 60 rfl) (own_w hw 29 rfl) (own_w hw 30 rfl) e1 (g := (mkF m 6 #[.val (.ref a1), .val (.ref a2)] [(.ref a1)])) rfl (by rw [hml]; rfl) rfl (hb hby d9_6) (by decide) (W := 0) (by show 2 * 0 + _ ≤ _; exact Nat.le_of_eq rfl) (by decide)
  have f4 := E1.wr W1
  have f5 := Fv.other W1 (Or.inr (slot_ne (Or.inl (own_w hw 67 rfl)) (Or.inr (own_w hw 59 rfl)) (by decide) (t := (.object "java/math/BigDecimal")) (t' := (.object "com/example/tipple/tipple/Arithmetic")) (by decide) (by decide)))
  obtain ⟨fs, hr, hrun, hended, hW, hsame⟩ := X3.leave (v := none) (fun _ => rfl) Bd.notSynchronized
  refine ⟨_, _, pre0 _ ?_, hrun, hended, _, _, rfl, ?_, ⟨_, rfl⟩, hW, hsame.mono (by decide) (by decide)⟩
  · show Steps p.tables e below (s₁.setTop (mkF m 0 #[.val (.ref a1), .val (.ref a2)] [])) _
    refine XS.aloadN X0.here hx rfl (hb hby d9_0) rfl rfl ?_
    refine XS.aloadN X0.here hx rfl (hb hby d9_1) rfl rfl ?_
    refine st1 _ ?_
    refine XS.aloadN X1.here hx rfl (hb hby d9_5) rfl rfl ?_
    refine st3 _ ?_
    show Steps p.tables e below (T3.setTop (mkF m 9 #[.val (.ref a1), .val (.ref a2)] [])) _
    exact X3.returnOut hx Bd.returns (hb hby d9_9) hr
  · show QrmRsI Z a1 a2  h0 n0 _ T3.heap _
    rw [e3]
    exact ⟨rfl, N1, ((Keep.refl h0 [a1]).wr W1 (Or.inl (List.mem_of_getElem? (i := 0) rfl))), f4, f5, Fw1⟩
theorem own_iv {i : Int32} (h : 0 ≤ i.toInt ∧ i.toInt ≤ 3) : ¬ (i < (-128 : Int32)) ∧ ¬ ((127 : Int32) < i) ∧ 0 ≤ (i + (128 : Int32)).toInt ∧ (i + (128 : Int32)).toInt < (256 : Nat) ∧ (i + (128 : Int32)) - 128 = i := by
  have a := c_iadd i 128; have b := Int32.toInt_lt (i + 128); have c := Int32.le_toInt (i + 128)
  have d := c_isub (i + 128) 128; have e := Int32.toInt_lt ((i + 128) - 128); have f := Int32.le_toInt ((i + 128) - 128)
  have k1 : (-128 : Int32).toInt = -128 := by decide
  have k2 : (127 : Int32).toInt = 127 := rfl
  have k3 : (128 : Int32).toInt = 128 := rfl
  rw [Int32.lt_iff_toInt_lt, Int32.lt_iff_toInt_lt, ← Int32.toInt_inj (x := (i + 128) - 128)]
  omega
theorem d1_0 : decode c_28 0 = .ok (.iload_n 0, 1) := by decide +kernel
theorem d1_1 : decode c_28 1 = .ok (.bipush (-128), 2) := by decide +kernel
theorem d1_3 : decode c_28 3 = .ok (.if_icmp .lt 20, 3) := by decide +kernel
theorem d1_6 : decode c_28 6 = .ok (.iload_n 0, 1) := by decide +kernel
theorem d1_7 : decode c_28 7 = .ok (.getstatic 191, 3) := by decide +kernel
theorem d1_10 : decode c_28 10 = .ok (.if_icmp .gt 13, 3) := by decide +kernel
theorem d1_13 : decode c_28 13 = .ok (.getstatic 195, 3) := by decide +kernel
theorem d1_16 : decode c_28 16 = .ok (.iload_n 0, 1) := by decide +kernel
theorem d1_17 : decode c_28 17 = .ok (.sipush 128, 3) := by decide +kernel
theorem d1_20 : decode c_28 20 = .ok (.iadd, 1) := by decide +kernel
theorem d1_21 : decode c_28 21 = .ok (.aaload, 1) := by decide +kernel
theorem d1_22 : decode c_28 22 = .ok (.areturn, 1) := by decide +kernel
theorem ef_rmIo (m : MethodId) (x0 : Int32) : entryFrame m #[(.int x0)] 1 = mkF m 0 #[.val (.int x0)] [] := by first | (simp [entryFrame, mkF, argsToLocals, Value.category]; done) | rfl
def QrmIo (Z : State) (i1 : Int32)  (h0 : Heap) (n0 : Nat) (v : Option Value) (h : Heap) (L : List Loc) : Prop := ∃ b, v = some (.ref b) ∧ Fr n0 L ∧ h = h0 ∧ Exa Z h0 b "java/lang/Integer" ∧ Fld Z h0 b "java/lang/Integer" "value" "I" (.int i1)
theorem rmIo (l : Launch) (Z : State) (a0 : Array Value) (hw : ∀ d ∈ tables_1, d.before a0 Z = true) (ws : List Jvm.Cond) (i1 : Int32)  (h0 : Heap) (n0 : Nat) (Z0 : n0 ≤ h0.size) (J : own_J Z) (O0 : Old Z n0 h0) (hi3 : 0 ≤ i1.toInt ∧ i1.toInt ≤ 3) :
    MetFree l m_41 (head1 (Jvm.Cond.code m_41 jdk_33_method_22_code 1 (some (.object "java/lang/Integer")) :: ws) ({ frames := 0, cells := 0, slots := 0, locals := 0 } : Room)) (fun a U => a = #[(.int i1)] ∧ Z.Warmed39 U.vm ∧ U.heap = h0) (fun _ _ _ _ _ => True) (fun _ U o U' => ∃ v L, o = .returned v ∧ QrmIo Z i1  h0 n0 v U'.heap L ∧ FrameEnd U o U' L ({ frames := 0, cells := 0, slots := 0, locals := 0 } : Room).cells ({ frames := 0, cells := 0, slots := 0, locals := 0 } : Room).slots) := by
  refine MetFree.of_bodySF (plainFor_of_name pn_java_lang_Integer) hisR ?_
  intro p e s m args below meth c s₁ Bd hml0 hP hK
  obtain ⟨rfl, hZ, hh⟩ := hP
  have hx := Bd.exec
  have hby := Bd.bytes
  have hml : c.maxLocals = 1 := hml0
  have hown : s.vm.findClass "java/lang/Integer" = some m.cls := findClass_of_methodNamed Bd.named
  have hnm := (name_of_methodNamed Bd.named Bd.method).1
  have X0 : Stand p l e ({ frames := 0, cells := 0, slots := 0, locals := 0 } : Room) s m #[(.int i1)] below meth c s₁ [] 0 0 := Stand.of_body Bd
  have e0 : s₁.heap = h0 := by rw [← hh, Bd.state]; rfl
  have N0 := Fr.nil n0
  have pre0 : ∀ t, Steps p.tables e below (s₁.setTop (mkF m 0 #[.val (.int i1)] [])) t → Steps p.tables e below (s₁.setTop (entryFrame m #[(.int i1)] 1)) t := fun t k => castTop (ef_rmIo m i1) k
  obtain ⟨aC, cC, sC, XC⟩ := J.cache
  obtain ⟨AC, zC, mC, HC⟩ := XC
  obtain ⟨v1, v2, v3, v4, v5⟩ := own_iv hi3
  have zC' : cC.slots.size = 256 := zC.trans (by decide)
  obtain ⟨bI, hI, EI, FI⟩ := HC _ (own_in zC' v3 v4)
  simp only [v5] at FI
  have f1 := J.high.ext O0.2
  obtain ⟨T2, X2, e2, st2⟩ := getS2 X0 hx hZ hown (host := "") (Or.inl (own_w hw 4 rfl)) Via.refl e0 f1 (g := (mkF m 7 #[.val (.int i1)] [(.int i1)])) rfl (hb hby d1_7)
  have f3 := sC.ext O0.2
  obtain ⟨T4, X4, e4, st4⟩ := getS2 X2 hx hZ hown (host := "") (Or.inl (own_w hw 6 rfl)) Via.refl e2 f3 (g := (mkF m 13 #[.val (.int i1)] [])) rfl (hb hby d1_13)
  have f5 := AC.ext O0.2
  obtain ⟨fs, hr, hrun, hended, hW, hsame⟩ := X4.leave (v := some (.ref bI)) (fun h => by rw [Bd.returns] at h; cases h) Bd.notSynchronized
  refine ⟨_, _, pre0 _ ?_, hrun, hended, _, _, rfl, ?_, ⟨_, rfl⟩, hW, hsame.mono (by decide) (by decide)⟩
  · show Steps p.tables e below (s₁.setTop (mkF m 0 #[.val (.int i1)] [])) _
    refine XS.iloadN X0.here hx rfl (hb hby d1_0) rfl ?_
    refine XS.bipush X0.here hx rfl (hb hby d1_1) ?_
    refine XS.icmpNo X0.here hx rfl (hb hby d1_3) rfl (flt (v1 : ¬ (i1 < (-128 : Int32)))).1 ?_
    refine XS.iloadN X0.here hx rfl (hb hby d1_6) rfl ?_
    refine st2 _ ?_
    refine XS.icmpNo X2.here hx rfl (hb hby d1_10) rfl (flt (v2 : ¬ ((127 : Int32) < i1))).2.2.1 ?_
    refine st4 _ ?_
    refine XS.iloadN X4.here hx rfl (hb hby d1_16) rfl ?_
    refine XS.sipush X4.here hx rfl (hb hby d1_17) ?_
    refine XS.iadd X4.here hx rfl (hb hby d1_20) rfl ?_
    refine X4.aaload hx (j := (i1 + (128 : Int32))) (v := (.ref bI)) (by rw [e4]; exact f5.1) (State.isArrayOf_alike hZ.alike f5.2.1) rfl f5.2.2 (own_in zC' v3 v4) hI (g := (mkF m 21 #[.val (.int i1)] [(.int (i1 + (128 : Int32))), (.ref aC)])) rfl rfl (hb hby d1_21) _ ?_
    show Steps p.tables e below (T4.setTop (mkF m 22 #[.val (.int i1)] [(.ref bI)])) _
    jvm_step X4.here [X4.here.top, hx, (hb hby d1_22), X4.method', Bd.returns, Value.isRef, FieldType.isReference]
    first | (intro acts; rw [hr _ acts rfl rfl rfl]) | rw [hr _ _ rfl rfl rfl]
    exact Steps.refl _
  · show QrmIo Z i1  h0 n0 _ T4.heap _
    rw [e4]
    exact ⟨bI, rfl, N0, rfl, EI.ext O0.2, FI.ext O0.2⟩
theorem d25_0 : decode c_34 0 = .ok (.bipush 8, 2) := by decide +kernel
theorem d25_2 : decode c_34 2 = .ok (.newarray .long, 2) := by decide +kernel
theorem d25_4 : decode c_34 4 = .ok (.dup, 1) := by decide +kernel
theorem d25_5 : decode c_34 5 = .ok (.iconst 0, 1) := by decide +kernel
theorem d25_6 : decode c_34 6 = .ok (.lconst 1, 1) := by decide +kernel
theorem d25_7 : decode c_34 7 = .ok (.lastore, 1) := by decide +kernel
theorem d25_8 : decode c_34 8 = .ok (.dup, 1) := by decide +kernel
theorem d25_9 : decode c_34 9 = .ok (.iconst 1, 1) := by decide +kernel
theorem d25_10 : decode c_34 10 = .ok (.ldc2_w 7, 3) := by decide +kernel
theorem d25_13 : decode c_34 13 = .ok (.lastore, 1) := by decide +kernel
theorem d25_14 : decode c_34 14 = .ok (.dup, 1) := by decide +kernel
theorem d25_15 : decode c_34 15 = .ok (.iconst 2, 1) := by decide +kernel
theorem d25_16 : decode c_34 16 = .ok (.ldc2_w 9, 3) := by decide +kernel
theorem d25_19 : decode c_34 19 = .ok (.lastore, 1) := by decide +kernel
theorem d25_20 : decode c_34 20 = .ok (.dup, 1) := by decide +kernel
theorem d25_21 : decode c_34 21 = .ok (.iconst 3, 1) := by decide +kernel
theorem d25_22 : decode c_34 22 = .ok (.ldc2_w 11, 3) := by decide +kernel
theorem d25_25 : decode c_34 25 = .ok (.lastore, 1) := by decide +kernel
theorem d25_26 : decode c_34 26 = .ok (.dup, 1) := by decide +kernel
theorem d25_27 : decode c_34 27 = .ok (.iconst 4, 1) := by decide +kernel
theorem d25_28 : decode c_34 28 = .ok (.ldc2_w 13, 3) := by decide +kernel
theorem d25_31 : decode c_34 31 = .ok (.lastore, 1) := by decide +kernel
theorem d25_32 : decode c_34 32 = .ok (.dup, 1) := by decide +kernel
theorem d25_33 : decode c_34 33 = .ok (.iconst 5, 1) := by decide +kernel
theorem d25_34 : decode c_34 34 = .ok (.ldc2_w 15, 3) := by decide +kernel
theorem d25_37 : decode c_34 37 = .ok (.lastore, 1) := by decide +kernel
theorem d25_38 : decode c_34 38 = .ok (.dup, 1) := by decide +kernel
theorem d25_39 : decode c_34 39 = .ok (.bipush 6, 2) := by decide +kernel
theorem d25_41 : decode c_34 41 = .ok (.ldc2_w 17, 3) := by decide +kernel
theorem d25_44 : decode c_34 44 = .ok (.lastore, 1) := by decide +kernel
theorem d25_45 : decode c_34 45 = .ok (.dup, 1) := by decide +kernel
theorem d25_46 : decode c_34 46 = .ok (.bipush 7, 2) := by decide +kernel
theorem d25_48 : decode c_34 48 = .ok (.ldc2_w 19, 3) := by decide +kernel
theorem d25_51 : decode c_34 51 = .ok (.lastore, 1) := by decide +kernel
theorem d25_52 : decode c_34 52 = .ok (.astore_n 1, 1) := by decide +kernel
theorem d25_53 : decode c_34 53 = .ok (.aload_n 1, 1) := by decide +kernel
theorem d25_54 : decode c_34 54 = .ok (.iload_n 0, 1) := by decide +kernel
theorem d25_55 : decode c_34 55 = .ok (.laload, 1) := by decide +kernel
theorem d25_56 : decode c_34 56 = .ok (.lreturn, 1) := by decide +kernel
theorem pn_com_example_tipple_tipple_RunningSumValuePinLaw : plainName "com/example/tipple/tipple/RunningSumValuePinLaw" = true := by first | (simp [plainName, overriddenIn]; done) | decide +kernel
theorem ef_rmP10 (m : MethodId) (x0 : Int32) : entryFrame m #[(.int x0)] 2 = mkF m 0 #[.val (.int x0), .unset] [] := by first | (simp [entryFrame, mkF, argsToLocals, Value.category]; done) | rfl
def QrmP10 (Z : State) (kk : Int32)  (h0 : Heap) (n0 : Nat) (v : Option Value) (h : Heap) (L : List Loc) : Prop := v = some (.long (own_pw kk)) ∧ Fr n0 L ∧ Keep h0 h []
theorem rmP10 (l : Launch) (Z : State) (a0 : Array Value) (hw : ∀ d ∈ tables_1, d.before a0 Z = true) (ws : List Jvm.Cond) (kk : Int32)  (h0 : Heap) (n0 : Nat) (Z0 : n0 ≤ h0.size) (hk0 : 0 ≤ kk.toInt) (hk7 : kk.toInt ≤ 7) :
    MetFree l m_8 (head1 (Jvm.Cond.code m_8 method_2_code 2 (some .long) :: ws) ({ frames := 0, cells := 1, slots := 8, locals := 0 } : Room)) (fun a U => a = #[(.int kk)] ∧ Z.Warmed39 U.vm ∧ U.heap = h0) (fun _ _ _ _ _ => True) (fun _ U o U' => ∃ v L, o = .returned v ∧ QrmP10 Z kk  h0 n0 v U'.heap L ∧ FrameEnd U o U' L ({ frames := 0, cells := 1, slots := 8, locals := 0 } : Room).cells ({ frames := 0, cells := 1, slots := 8, locals := 0 } : Room).slots) := by
  refine MetFree.of_bodySF (plainFor_of_name pn_com_example_tipple_tipple_RunningSumValuePinLaw) hisR ?_
  intro p e s m args below meth c s₁ Bd hml0 hP hK
  obtain ⟨rfl, hZ, hh⟩ := hP
  have hx := Bd.exec
  have hby := Bd.bytes
  have hml : c.maxLocals = 2 := hml0
  have hown : s.vm.findClass "com/example/tipple/tipple/RunningSumValuePinLaw" = some m.cls := findClass_of_methodNamed Bd.named
  have hnm := (name_of_methodNamed Bd.named Bd.method).1
  have X0 : Stand p l e ({ frames := 0, cells := 1, slots := 8, locals := 0 } : Room) s m #[(.int kk)] below meth c s₁ [] 0 0 := Stand.of_body Bd
  have e0 : s₁.heap = h0 := by rw [← hh, Bd.state]; rfl
  have N0 := Fr.nil n0
  have pre0 : ∀ t, Steps p.tables e below (s₁.setTop (mkF m 0 #[.val (.int kk), .unset] [])) t → Steps p.tables e below (s₁.setTop (entryFrame m #[(.int kk)] 2)) t := fun t k => castTop (ef_rmP10 m kk) k
  obtain ⟨T1, h1, k1, X1, e1, E1, A1, st1⟩ := newP X0 hx hZ (own_w hw 135 rfl) e0 (g := (mkF m 2 #[.val (.int kk), .unset] [(.int (8 : Int32))])) rfl (hb hby d25_2) rfl (by decide) (cap := 8) (by decide) (by decide) (by decide) (by decide)
  obtain ⟨b1, gz1⟩ : ∃ z, z = h0.size := ⟨_, rfl⟩
  rw [← gz1] at A1 st1
  have g_b1 : n0 ≤ b1 := Nat.le_trans Z0 (Nat.le_of_eq gz1.symm)
  have sz_b1 : h0.size ≤ b1 := Nat.le_trans (Keep.refl h0 []).1 (Nat.le_of_eq gz1.symm)
  have Z2 : n0 ≤ h1.size := Nat.le_trans Z0 E1.1
  have V_b1 : Arv Z h1 b1 k1 .long (8 : Int32) [(.long (0 : Int64)), (.long (0 : Int64)), (.long (0 : Int64)), (.long (0 : Int64)), (.long (0 : Int64)), (.long (0 : Int64)), (.long (0 : Int64)), (.long (0 : Int64))] (.long (0 : Int64)) := (Arv.new A1 (by decide)).pad (pad_rep [] (.long (0 : Int64)) 8)
  obtain ⟨cl3, Ar3, q3, S3, M3, Hs3, G3⟩ := V_b1
  have hin3 : ¬ ((0 : Int32) < 0 ∨ cl3.slots.size ≤ ((0 : Int32)).toNatClampNeg) := inb_of S3 ⟨by decide, by decide⟩
  obtain ⟨T4, h4, X4, e4, W4, st4⟩ := stJ X1 hx hZ e1 Ar3 (j := (0 : Int32)) hin3 (g := (mkF m 7 #[.val (.int kk), .unset] [(.long (1 : Int64)), (.int (0 : Int32)), (.ref b1), (.ref b1)])) rfl rfl (hb hby d25_7)
  have Z5 : n0 ≤ h4.size := Nat.le_trans Z2 (Keep.of_wr W4).1
  have V4 : Arv Z h4 b1 k1 .long (8 : Int32) [(.long (1 : Int64)), (.long (0 : Int64)), (.long (0 : Int64)), (.long (0 : Int64)), (.long (0 : Int64)), (.long (0 : Int64)), (.long (0 : Int64)), (.long (0 : Int64))] (.long (0 : Int64)) := Arv.set Ar3 q3 S3 M3 Hs3 G3 rfl W4 0 rfl (Nat.le_of_ble_eq_true rfl)
  have N4 := Fr.snoc X4 N0 g_b1
  obtain ⟨cl6, Ar6, q6, S6, M6, Hs6, G6⟩ := V4
  have hin6 : ¬ ((1 : Int32) < 0 ∨ cl6.slots.size ≤ ((1 : Int32)).toNatClampNeg) := inb_of S6 ⟨by decide, by decide⟩
  obtain ⟨T7, h7, X7, e7, W7, st7⟩ := stJ X4 hx hZ e4 Ar6 (j := (1 : Int32)) hin6 (g := (mkF m 13 #[.val (.int kk), .unset] [(.long (10 : Int64)), (.int (1 : Int32)), (.ref b1), (.ref b1)])) rfl rfl (hb hby d25_13)
  have Z8 : n0 ≤ h7.size := Nat.le_trans Z5 (Keep.of_wr W7).1
  have V7 : Arv Z h7 b1 k1 .long (8 : Int32) [(.long (1 : Int64)), (.long (10 : Int64)), (.long (0 : Int64)), (.long (0 : Int64)), (.long (0 : Int64)), (.long (0 : Int64)), (.long (0 : Int64)), (.long (0 : Int64))] (.long (0 : Int64)) := Arv.set Ar6 q6 S6 M6 Hs6 G6 rfl W7 1 rfl (Nat.le_of_ble_eq_true rfl)
  have N7 := Fr.snoc X7 N4 g_b1
  obtain ⟨cl9, Ar9, q9, S9, M9, Hs9, G9⟩ := V7
  have hin9 : ¬ ((2 : Int32) < 0 ∨ cl9.slots.size ≤ ((2 : Int32)).toNatClampNeg) := inb_of S9 ⟨by decide, by decide⟩
  obtain ⟨T10, h10, X10, e10, W10, st10⟩ := stJ X7 hx hZ e7 Ar9 (j := (2 : Int32)) hin9 (g := (mkF m 19 #[.val (.int kk), .unset] [(.long (100 : Int64)), (.int (2 : Int32)), (.ref b1), (.ref b1)])) rfl rfl (hb hby d25_19)
  have Z11 : n0 ≤ h10.size := Nat.le_trans Z8 (Keep.of_wr W10).1
  have V10 : Arv Z h10 b1 k1 .long (8 : Int32) [(.long (1 : Int64)), (.long (10 : Int64)), (.long (100 : Int64)), (.long (0 : Int64)), (.long (0 : Int64)), (.long (0 : Int64)), (.long (0 : Int64)), (.long (0 : Int64))] (.long (0 : Int64)) := Arv.set Ar9 q9 S9 M9 Hs9 G9 rfl W10 2 rfl (Nat.le_of_ble_eq_true rfl)
  have N10 := Fr.snoc X10 N7 g_b1
  obtain ⟨cl12, Ar12, q12, S12, M12, Hs12, G12⟩ := V10
  have hin12 : ¬ ((3 : Int32) < 0 ∨ cl12.slots.size ≤ ((3 : Int32)).toNatClampNeg) := inb_of S12 ⟨by decide, by decide⟩
  obtain ⟨T13, h13, X13, e13, W13, st13⟩ := stJ X10 hx hZ e10 Ar12 (j := (3 : Int32)) hin12 (g := (mkF m 25 #[.val (.int kk), .unset] [(.long (1000 : Int64)), (.int (3 : Int32)), (.ref b1), (.ref b1)])) rfl rfl (hb hby d25_25)
  have Z14 : n0 ≤ h13.size := Nat.le_trans Z11 (Keep.of_wr W13).1
  have V13 : Arv Z h13 b1 k1 .long (8 : Int32) [(.long (1 : Int64)), (.long (10 : Int64)), (.long (100 : Int64)), (.long (1000 : Int64)), (.long (0 : Int64)), (.long (0 : Int64)), (.long (0 : Int64)), (.long (0 : Int64))] (.long (0 : Int64)) := Arv.set Ar12 q12 S12 M12 Hs12 G12 rfl W13 3 rfl (Nat.le_of_ble_eq_true rfl)
  have N13 := Fr.snoc X13 N10 g_b1
  obtain ⟨cl15, Ar15, q15, S15, M15, Hs15, G15⟩ := V13
  have hin15 : ¬ ((4 : Int32) < 0 ∨ cl15.slots.size ≤ ((4 : Int32)).toNatClampNeg) := inb_of S15 ⟨by decide, by decide⟩
  obtain ⟨T16, h16, X16, e16, W16, st16⟩ := stJ X13 hx hZ e13 Ar15 (j := (4 : Int32)) hin15 (g := (mkF m 31 #[.val (.int kk), .unset] [(.long (10000 : Int64)), (.int (4 : Int32)), (.ref b1), (.ref b1)])) rfl rfl (hb hby d25_31)
  have Z17 : n0 ≤ h16.size := Nat.le_trans Z14 (Keep.of_wr W16).1
  have V16 : Arv Z h16 b1 k1 .long (8 : Int32) [(.long (1 : Int64)), (.long (10 : Int64)), (.long (100 : Int64)), (.long (1000 : Int64)), (.long (10000 : Int64)), (.long (0 : Int64)), (.long (0 : Int64)), (.long (0 : Int64))] (.long (0 : Int64)) := Arv.set Ar15 q15 S15 M15 Hs15 G15 rfl W16 4 rfl (Nat.le_of_ble_eq_true rfl)
  have N16 := Fr.snoc X16 N13 g_b1
  obtain ⟨cl18, Ar18, q18, S18, M18, Hs18, G18⟩ := V16
  have hin18 : ¬ ((5 : Int32) < 0 ∨ cl18.slots.size ≤ ((5 : Int32)).toNatClampNeg) := inb_of S18 ⟨by decide, by decide⟩
  obtain ⟨T19, h19, X19, e19, W19, st19⟩ := stJ X16 hx hZ e16 Ar18 (j := (5 : Int32)) hin18 (g := (mkF m 37 #[.val (.int kk), .unset] [(.long (100000 : Int64)), (.int (5 : Int32)), (.ref b1), (.ref b1)])) rfl rfl (hb hby d25_37)
  have Z20 : n0 ≤ h19.size := Nat.le_trans Z17 (Keep.of_wr W19).1
  have V19 : Arv Z h19 b1 k1 .long (8 : Int32) [(.long (1 : Int64)), (.long (10 : Int64)), (.long (100 : Int64)), (.long (1000 : Int64)), (.long (10000 : Int64)), (.long (100000 : Int64)), (.long (0 : Int64)), (.long (0 : Int64))] (.long (0 : Int64)) := Arv.set Ar18 q18 S18 M18 Hs18 G18 rfl W19 5 rfl (Nat.le_of_ble_eq_true rfl)
  have N19 := Fr.snoc X19 N16 g_b1
  obtain ⟨cl21, Ar21, q21, S21, M21, Hs21, G21⟩ := V19
  have hin21 : ¬ ((6 : Int32) < 0 ∨ cl21.slots.size ≤ ((6 : Int32)).toNatClampNeg) := inb_of S21 ⟨by decide, by decide⟩
  obtain ⟨T22, h22, X22, e22, W22, st22⟩ := stJ X19 hx hZ e19 Ar21 (j := (6 : Int32)) hin21 (g := (mkF m 44 #[.val (.int kk), .unset] [(.long (1000000 : Int64)), (.int (6 : Int32)), (.ref b1), (.ref b1)])) rfl rfl (hb hby d25_44)
  have Z23 : n0 ≤ h22.size := Nat.le_trans Z20 (Keep.of_wr W22).1
  have V22 : Arv Z h22 b1 k1 .long (8 : Int32) [(.long (1 : Int64)), (.long (10 : Int64)), (.long (100 : Int64)), (.long (1000 : Int64)), (.long (10000 : Int64)), (.long (100000 : Int64)), (.long (1000000 : Int64)), (.long (0 : Int64))] (.long (0 : Int64)) := Arv.set Ar21 q21 S21 M21 Hs21 G21 rfl W22 6 rfl (Nat.le_of_ble_eq_true rfl)
  have N22 := Fr.snoc X22 N19 g_b1
  obtain ⟨cl24, Ar24, q24, S24, M24, Hs24, G24⟩ := V22
  have hin24 : ¬ ((7 : Int32) < 0 ∨ cl24.slots.size ≤ ((7 : Int32)).toNatClampNeg) := inb_of S24 ⟨by decide, by decide⟩
  obtain ⟨T25, h25, X25, e25, W25, st25⟩ := stJ X22 hx hZ e22 Ar24 (j := (7 : Int32)) hin24 (g := (mkF m 51 #[.val (.int kk), .unset] [(.long (10000000 : Int64)), (.int (7 : Int32)), (.ref b1), (.ref b1)])) rfl rfl (hb hby d25_51)
  have Z26 : n0 ≤ h25.size := Nat.le_trans Z23 (Keep.of_wr W25).1
  have V25 : Arv Z h25 b1 k1 .long (8 : Int32) [(.long (1 : Int64)), (.long (10 : Int64)), (.long (100 : Int64)), (.long (1000 : Int64)), (.long (10000 : Int64)), (.long (100000 : Int64)), (.long (1000000 : Int64)), (.long (10000000 : Int64))] (.long (0 : Int64)) := Arv.set Ar24 q24 S24 M24 Hs24 G24 rfl W25 7 rfl (Nat.le_of_ble_eq_true rfl)
  have N25 := Fr.snoc X25 N22 g_b1
  obtain ⟨cl, Ar, -, S_, M_, Hs, -⟩ := (id V25)
  have hin : ¬ (kk < 0 ∨ cl.slots.size ≤ kk.toNatClampNeg) := own_in (N := 8) (S_.trans (by decide)) hk0 (by omega)
  have hat : cl.slots[kk.toNatClampNeg]? = some (.long (own_pw kk)) := Has.at Hs hin (by rcases own_k8 hk0 hk7 with rfl | rfl | rfl | rfl | rfl | rfl | rfl | rfl <;> rfl)
  obtain ⟨fs, hr, hrun, hended, hW, hsame⟩ := X25.leave (v := some (.long (own_pw kk))) (fun h => by rw [Bd.returns] at h; cases h) Bd.notSynchronized
  refine ⟨_, _, pre0 _ ?_, hrun, hended, _, _, rfl, ?_, ⟨_, rfl⟩, hW, hsame.mono (by decide) (by decide)⟩
  · show Steps p.tables e below (s₁.setTop (mkF m 0 #[.val (.int kk), .unset] [])) _
    refine XS.bipush X0.here hx rfl (hb hby d25_0) ?_
    refine st1 _ ?_
    refine XS.dup X1.here hx rfl (hb hby d25_4) rfl rfl ?_
    refine XS.iconst X1.here hx rfl (hb hby d25_5) ?_
    refine XS.lconst X1.here hx rfl (hb hby d25_6) ?_
    refine st4 _ ?_
    refine XS.dup X4.here hx rfl (hb hby d25_8) rfl rfl ?_
    refine XS.iconst X4.here hx rfl (hb hby d25_9) ?_
    refine X4.ldc2Long hx hown (mvT hZ (own_w hw 136 rfl)) (g := (mkF m 10 #[.val (.int kk), .unset] [(.int (1 : Int32)), (.ref b1), (.ref b1)])) rfl (hb hby d25_10) _ ?_
    refine st7 _ ?_
    refine XS.dup X7.here hx rfl (hb hby d25_14) rfl rfl ?_
    refine XS.iconst X7.here hx rfl (hb hby d25_15) ?_
    refine X7.ldc2Long hx hown (mvT hZ (own_w hw 137 rfl)) (g := (mkF m 16 #[.val (.int kk), .unset] [(.int (2 : Int32)), (.ref b1), (.ref b1)])) rfl (hb hby d25_16) _ ?_
    refine st10 _ ?_
    refine XS.dup X10.here hx rfl (hb hby d25_20) rfl rfl ?_
    refine XS.iconst X10.here hx rfl (hb hby d25_21) ?_
    refine X10.ldc2Long hx hown (mvT hZ (own_w hw 138 rfl)) (g := (mkF m 22 #[.val (.int kk), .unset] [(.int (3 : Int32)), (.ref b1), (.ref b1)])) rfl (hb hby d25_22) _ ?_
    refine st13 _ ?_
    refine XS.dup X13.here hx rfl (hb hby d25_26) rfl rfl ?_
    refine XS.iconst X13.here hx rfl (hb hby d25_27) ?_
    refine X13.ldc2Long hx hown (mvT hZ (own_w hw 139 rfl)) (g := (mkF m 28 #[.val (.int kk), .unset] [(.int (4 : Int32)), (.ref b1), (.ref b1)])) rfl (hb hby d25_28) _ ?_
    refine st16 _ ?_
    refine XS.dup X16.here hx rfl (hb hby d25_32) rfl rfl ?_
    refine XS.iconst X16.here hx rfl (hb hby d25_33) ?_
    refine X16.ldc2Long hx hown (mvT hZ (own_w hw 140 rfl)) (g := (mkF m 34 #[.val (.int kk), .unset] [(.int (5 : Int32)), (.ref b1), (.ref b1)])) rfl (hb hby d25_34) _ ?_
    refine st19 _ ?_
    show Steps p.tables e below (T19.setTop (mkF m 38 #[.val (.int kk), .unset] [(.ref b1)])) _
    refine XS.dup X19.here hx rfl (hb hby d25_38) rfl rfl ?_
    refine XS.bipush X19.here hx rfl (hb hby d25_39) ?_
    refine X19.ldc2Long hx hown (mvT hZ (own_w hw 141 rfl)) (g := (mkF m 41 #[.val (.int kk), .unset] [(.int (6 : Int32)), (.ref b1), (.ref b1)])) rfl (hb hby d25_41) _ ?_
    refine st22 _ ?_
    refine XS.dup X22.here hx rfl (hb hby d25_45) rfl rfl ?_
    refine XS.bipush X22.here hx rfl (hb hby d25_46) ?_
    refine X22.ldc2Long hx hown (mvT hZ (own_w hw 142 rfl)) (g := (mkF m 48 #[.val (.int kk), .unset] [(.int (7 : Int32)), (.ref b1), (.ref b1)])) rfl (hb hby d25_48) _ ?_
    refine st25 _ ?_
    refine XS.astoreN X25.here hx rfl (hb hby d25_52) rfl rfl (l' := #[.val (.int kk), .val (.ref b1)]) rfl ?_
    refine XS.aloadN X25.here hx rfl (hb hby d25_53) rfl rfl ?_
    refine XS.iloadN X25.here hx rfl (hb hby d25_54) rfl ?_
    refine X25.laload hx (j := kk) (v := (.long (own_pw kk))) (by rw [e25]; exact Ar.1) (State.isArrayOf_alike hZ.alike Ar.2.1) Ar.2.2 hin hat (g := (mkF m 55 #[.val (.int kk), .val (.ref b1)] [(.int kk), (.ref b1)])) rfl rfl (hb hby d25_55) _ ?_
    show Steps p.tables e below (T25.setTop (mkF m 56 #[.val (.int kk), .val (.ref b1)] [(.long (own_pw kk))])) _
    exact X25.lreturnOut hx Bd.returns (hb hby d25_56) hr
  · show QrmP10 Z kk  h0 n0 _ T25.heap _
    rw [e25]
    exact ⟨rfl, N25, ((((((((((Keep.refl h0 []).ext E1).wr W4 (Or.inr sz_b1)).wr W7 (Or.inr sz_b1)).wr W10 (Or.inr sz_b1)).wr W13 (Or.inr sz_b1)).wr W16 (Or.inr sz_b1)).wr W19 (Or.inr sz_b1)).wr W22 (Or.inr sz_b1)).wr W25 (Or.inr sz_b1))⟩
theorem own_arrN {s : State} {args : Array Value} {t : Term} {ty : FieldType} {a : Addr} {N : Int32} (ev : t.eval args s none [] s = some (.ref a)) (ha : (Cond.arrayOf t ty).value args s none s [] = some true) (hl : (Cond.eq (.length t) (.int N)).value args s none s [] = some true) : ∃ c, Arr s s.heap a c ty ∧ c.slots.size < 2 ^ 31 ∧ c.slots.size.toInt32 = N := by
  obtain ⟨c, A⟩ := Arr.start ev ha
  obtain ⟨b, cl, e1, e2, e3, e4⟩ := Jvm.Lib.length_spec (eqv_i (Term.int_eval N) hl)
  cases ev.symm.trans e1
  obtain rfl : c = cl := Option.some.inj ((IntBox.arrayAt_of A.1 A.2.1 A.2.2).symm.trans e2)
  exact ⟨c, A, e3, (Value.int.inj e4).symm⟩
theorem own_szN {n : Nat} {N : Int32} (h : n < 2 ^ 31) (e : n.toInt32 = N) : n = N.toNatClampNeg := by
  rw [← e]
  simp only [Int32.toNatClampNeg, len_toInt h]
  rfl
theorem own_bd {s : State} {args : Array Value} {t : Term} {a : Addr} {sc : Int32} {ic : Int64} (ev : t.eval args s none [] s = some (.ref a)) (hx : (Cond.exactly t "java/math/BigDecimal").value args s none s [] = some true) (h1 : (Cond.eq (.field t "java/math/BigDecimal" "scale" "I") (.int sc)).value args s none s [] = some true) (h2 : (Cond.eq (.field t "java/math/BigDecimal" "intCompact" "J") (.long ic)).value args s none s [] = some true) : own_BD s s.heap a sc ic :=
  ⟨Exa.start ev hx, Fld.start ((fld_at ev).symm.trans (eqv_i (Term.int_eval sc) h1)), Fld.start ((fld_at ev).symm.trans (eqv_l (F := .long ic) rfl h2))⟩
theorem own_c19 {n : Nat} (h : n < 19) : n = 0 ∨ n = 1 ∨ n = 2 ∨ n = 3 ∨ n = 4 ∨ n = 5 ∨ n = 6 ∨ n = 7 ∨ n = 8 ∨ n = 9 ∨ n = 10 ∨ n = 11 ∨ n = 12 ∨ n = 13 ∨ n = 14 ∨ n = 15 ∨ n = 16 ∨ n = 17 ∨ n = 18 := by omega
theorem own_c11 {n : Nat} (h : n < 11) : n = 0 ∨ n = 1 ∨ n = 2 ∨ n = 3 ∨ n = 4 ∨ n = 5 ∨ n = 6 ∨ n = 7 ∨ n = 8 ∨ n = 9 ∨ n = 10 := by omega
theorem own_c16 {n : Nat} (h : n < 16) : n = 0 ∨ n = 1 ∨ n = 2 ∨ n = 3 ∨ n = 4 ∨ n = 5 ∨ n = 6 ∨ n = 7 ∨ n = 8 ∨ n = 9 ∨ n = 10 ∨ n = 11 ∨ n = 12 ∨ n = 13 ∨ n = 14 ∨ n = 15 := by omega
theorem own_idx {Z : State} {args : Array Value} (X : Term) (j : Int32) (nn : ¬ j < 0) (h : (Cond.eq X (.sub (.index 0) (.int (128 : Int32)))).value args Z none Z [j.toNatClampNeg] = some true) : X.eval args Z none [j.toNatClampNeg] Z = some (.int (j - 128)) :=
  eqv_i (F := .sub (.index 0) (.int (128 : Int32))) (by
    simp only [Term.eval]
    simp
    exact (back32 nn).1) h
theorem own_Jof {s : State} {args : Array Value} (hw : ∀ d ∈ tables_1, d.before args s = true) (hsets : ∀ w ∈ jdkStatics_1, w.before args s = true) : own_J s := by
  refine ⟨?_, ?_, ?_, ?_, ?_, ?_, ?_, ?_, ?_, ?_⟩
  · exact Sta.start (eqv_i (Term.int_eval _) (Cond.before_iff.mp (hsets _ (List.mem_of_getElem? (i := 3) rfl)))) (Or.inl (hsets _ (List.mem_of_getElem? (i := 1) rfl)))
  · have x1 := (Cond.before_iff.mp (hsets _ (List.mem_of_getElem? (i := 4) rfl)))
    obtain ⟨a, ev⟩ := arr_v x1
    obtain ⟨c, A, z1, z2⟩ := own_arrN ev x1 (Cond.before_iff.mp (hsets _ (List.mem_of_getElem? (i := 6) rfl)))
    exact ⟨a, c, Sta.start ev (Or.inr ⟨(own_w hw 5 rfl), (hsets _ (List.mem_of_getElem? (i := 2) rfl))⟩), Bxs.start (fun idx => ev) A z1 z2 (by decide) (Cond.before_iff.mp (hsets _ (List.mem_of_getElem? (i := 7) rfl))) own_idx⟩
  · have x1 := (Cond.before_iff.mp (hsets _ (List.mem_of_getElem? (i := 161) rfl)))
    obtain ⟨a, ev⟩ := arr_v x1
    obtain ⟨c, A, z1, z2⟩ := own_arrN ev x1 (Cond.before_iff.mp (hsets _ (List.mem_of_getElem? (i := 163) rfl)))
    have g0 := (elem_in (eqv_l (F := .long (1 : Int64)) rfl (Cond.before_iff.mp (hsets _ (List.mem_of_getElem? (i := 164) rfl)))) ev (Term.int_eval _) A.1).2
    have g1 := (elem_in (eqv_l (F := .long (10 : Int64)) rfl (Cond.before_iff.mp (hsets _ (List.mem_of_getElem? (i := 165) rfl)))) ev (Term.int_eval _) A.1).2
    have g2 := (elem_in (eqv_l (F := .long (100 : Int64)) rfl (Cond.before_iff.mp (hsets _ (List.mem_of_getElem? (i := 166) rfl)))) ev (Term.int_eval _) A.1).2
    have g3 := (elem_in (eqv_l (F := .long (1000 : Int64)) rfl (Cond.before_iff.mp (hsets _ (List.mem_of_getElem? (i := 167) rfl)))) ev (Term.int_eval _) A.1).2
    have g4 := (elem_in (eqv_l (F := .long (10000 : Int64)) rfl (Cond.before_iff.mp (hsets _ (List.mem_of_getElem? (i := 168) rfl)))) ev (Term.int_eval _) A.1).2
    have g5 := (elem_in (eqv_l (F := .long (100000 : Int64)) rfl (Cond.before_iff.mp (hsets _ (List.mem_of_getElem? (i := 169) rfl)))) ev (Term.int_eval _) A.1).2
    have g6 := (elem_in (eqv_l (F := .long (1000000 : Int64)) rfl (Cond.before_iff.mp (hsets _ (List.mem_of_getElem? (i := 170) rfl)))) ev (Term.int_eval _) A.1).2
    have g7 := (elem_in (eqv_l (F := .long (10000000 : Int64)) rfl (Cond.before_iff.mp (hsets _ (List.mem_of_getElem? (i := 171) rfl)))) ev (Term.int_eval _) A.1).2
    have g8 := (elem_in (eqv_l (F := .long (100000000 : Int64)) rfl (Cond.before_iff.mp (hsets _ (List.mem_of_getElem? (i := 172) rfl)))) ev (Term.int_eval _) A.1).2
    have g9 := (elem_in (eqv_l (F := .long (1000000000 : Int64)) rfl (Cond.before_iff.mp (hsets _ (List.mem_of_getElem? (i := 173) rfl)))) ev (Term.int_eval _) A.1).2
    have g10 := (elem_in (eqv_l (F := .long (10000000000 : Int64)) rfl (Cond.before_iff.mp (hsets _ (List.mem_of_getElem? (i := 174) rfl)))) ev (Term.int_eval _) A.1).2
    have g11 := (elem_in (eqv_l (F := .long (100000000000 : Int64)) rfl (Cond.before_iff.mp (hsets _ (List.mem_of_getElem? (i := 175) rfl)))) ev (Term.int_eval _) A.1).2
    have g12 := (elem_in (eqv_l (F := .long (1000000000000 : Int64)) rfl (Cond.before_iff.mp (hsets _ (List.mem_of_getElem? (i := 176) rfl)))) ev (Term.int_eval _) A.1).2
    have g13 := (elem_in (eqv_l (F := .long (10000000000000 : Int64)) rfl (Cond.before_iff.mp (hsets _ (List.mem_of_getElem? (i := 177) rfl)))) ev (Term.int_eval _) A.1).2
    have g14 := (elem_in (eqv_l (F := .long (100000000000000 : Int64)) rfl (Cond.before_iff.mp (hsets _ (List.mem_of_getElem? (i := 178) rfl)))) ev (Term.int_eval _) A.1).2
    have g15 := (elem_in (eqv_l (F := .long (1000000000000000 : Int64)) rfl (Cond.before_iff.mp (hsets _ (List.mem_of_getElem? (i := 179) rfl)))) ev (Term.int_eval _) A.1).2
    have g16 := (elem_in (eqv_l (F := .long (10000000000000000 : Int64)) rfl (Cond.before_iff.mp (hsets _ (List.mem_of_getElem? (i := 180) rfl)))) ev (Term.int_eval _) A.1).2
    have g17 := (elem_in (eqv_l (F := .long (100000000000000000 : Int64)) rfl (Cond.before_iff.mp (hsets _ (List.mem_of_getElem? (i := 181) rfl)))) ev (Term.int_eval _) A.1).2
    have g18 := (elem_in (eqv_l (F := .long (1000000000000000000 : Int64)) rfl (Cond.before_iff.mp (hsets _ (List.mem_of_getElem? (i := 182) rfl)))) ev (Term.int_eval _) A.1).2
    refine ⟨a, c, Sta.start ev (Or.inl (hsets _ (List.mem_of_getElem? (i := 160) rfl))), A, (own_szN z1 z2).trans (by decide), fun i hi => ?_⟩
    rcases own_c19 hi with rfl | rfl | rfl | rfl | rfl | rfl | rfl | rfl | rfl | rfl | rfl | rfl | rfl | rfl | rfl | rfl | rfl | rfl | rfl
    · exact g0
    · exact g1
    · exact g2
    · exact g3
    · exact g4
    · exact g5
    · exact g6
    · exact g7
    · exact g8
    · exact g9
    · exact g10
    · exact g11
    · exact g12
    · exact g13
    · exact g14
    · exact g15
    · exact g16
    · exact g17
    · exact g18
  · have x1 := (Cond.before_iff.mp (hsets _ (List.mem_of_getElem? (i := 185) rfl)))
    obtain ⟨a, ev⟩ := arr_v x1
    obtain ⟨c, A, z1, z2⟩ := own_arrN ev x1 (Cond.before_iff.mp (hsets _ (List.mem_of_getElem? (i := 187) rfl)))
    have g0 := (elem_in (eqv_l (F := .long (9223372036854775807 : Int64)) rfl (Cond.before_iff.mp (hsets _ (List.mem_of_getElem? (i := 188) rfl)))) ev (Term.int_eval _) A.1).2
    have g1 := (elem_in (eqv_l (F := .long (922337203685477580 : Int64)) rfl (Cond.before_iff.mp (hsets _ (List.mem_of_getElem? (i := 189) rfl)))) ev (Term.int_eval _) A.1).2
    have g2 := (elem_in (eqv_l (F := .long (92233720368547758 : Int64)) rfl (Cond.before_iff.mp (hsets _ (List.mem_of_getElem? (i := 190) rfl)))) ev (Term.int_eval _) A.1).2
    have g3 := (elem_in (eqv_l (F := .long (9223372036854775 : Int64)) rfl (Cond.before_iff.mp (hsets _ (List.mem_of_getElem? (i := 191) rfl)))) ev (Term.int_eval _) A.1).2
    have g4 := (elem_in (eqv_l (F := .long (922337203685477 : Int64)) rfl (Cond.before_iff.mp (hsets _ (List.mem_of_getElem? (i := 192) rfl)))) ev (Term.int_eval _) A.1).2
    have g5 := (elem_in (eqv_l (F := .long (92233720368547 : Int64)) rfl (Cond.before_iff.mp (hsets _ (List.mem_of_getElem? (i := 193) rfl)))) ev (Term.int_eval _) A.1).2
    have g6 := (elem_in (eqv_l (F := .long (9223372036854 : Int64)) rfl (Cond.before_iff.mp (hsets _ (List.mem_of_getElem? (i := 194) rfl)))) ev (Term.int_eval _) A.1).2
    have g7 := (elem_in (eqv_l (F := .long (922337203685 : Int64)) rfl (Cond.before_iff.mp (hsets _ (List.mem_of_getElem? (i := 195) rfl)))) ev (Term.int_eval _) A.1).2
    have g8 := (elem_in (eqv_l (F := .long (92233720368 : Int64)) rfl (Cond.before_iff.mp (hsets _ (List.mem_of_getElem? (i := 196) rfl)))) ev (Term.int_eval _) A.1).2
    have g9 := (elem_in (eqv_l (F := .long (9223372036 : Int64)) rfl (Cond.before_iff.mp (hsets _ (List.mem_of_getElem? (i := 197) rfl)))) ev (Term.int_eval _) A.1).2
    have g10 := (elem_in (eqv_l (F := .long (922337203 : Int64)) rfl (Cond.before_iff.mp (hsets _ (List.mem_of_getElem? (i := 198) rfl)))) ev (Term.int_eval _) A.1).2
    have g11 := (elem_in (eqv_l (F := .long (92233720 : Int64)) rfl (Cond.before_iff.mp (hsets _ (List.mem_of_getElem? (i := 199) rfl)))) ev (Term.int_eval _) A.1).2
    have g12 := (elem_in (eqv_l (F := .long (9223372 : Int64)) rfl (Cond.before_iff.mp (hsets _ (List.mem_of_getElem? (i := 200) rfl)))) ev (Term.int_eval _) A.1).2
    have g13 := (elem_in (eqv_l (F := .long (922337 : Int64)) rfl (Cond.before_iff.mp (hsets _ (List.mem_of_getElem? (i := 201) rfl)))) ev (Term.int_eval _) A.1).2
    have g14 := (elem_in (eqv_l (F := .long (92233 : Int64)) rfl (Cond.before_iff.mp (hsets _ (List.mem_of_getElem? (i := 202) rfl)))) ev (Term.int_eval _) A.1).2
    have g15 := (elem_in (eqv_l (F := .long (9223 : Int64)) rfl (Cond.before_iff.mp (hsets _ (List.mem_of_getElem? (i := 203) rfl)))) ev (Term.int_eval _) A.1).2
    have g16 := (elem_in (eqv_l (F := .long (922 : Int64)) rfl (Cond.before_iff.mp (hsets _ (List.mem_of_getElem? (i := 204) rfl)))) ev (Term.int_eval _) A.1).2
    have g17 := (elem_in (eqv_l (F := .long (92 : Int64)) rfl (Cond.before_iff.mp (hsets _ (List.mem_of_getElem? (i := 205) rfl)))) ev (Term.int_eval _) A.1).2
    have g18 := (elem_in (eqv_l (F := .long (9 : Int64)) rfl (Cond.before_iff.mp (hsets _ (List.mem_of_getElem? (i := 206) rfl)))) ev (Term.int_eval _) A.1).2
    refine ⟨a, c, Sta.start ev (Or.inl (hsets _ (List.mem_of_getElem? (i := 184) rfl))), A, (own_szN z1 z2).trans (by decide), fun i hi => ?_⟩
    rcases own_c19 hi with rfl | rfl | rfl | rfl | rfl | rfl | rfl | rfl | rfl | rfl | rfl | rfl | rfl | rfl | rfl | rfl | rfl | rfl | rfl
    · exact g0
    · exact g1
    · exact g2
    · exact g3
    · exact g4
    · exact g5
    · exact g6
    · exact g7
    · exact g8
    · exact g9
    · exact g10
    · exact g11
    · exact g12
    · exact g13
    · exact g14
    · exact g15
    · exact g16
    · exact g17
    · exact g18
  · have x1 := (Cond.before_iff.mp (hsets _ (List.mem_of_getElem? (i := 26) rfl)))
    obtain ⟨a, ev⟩ := arr_v x1
    obtain ⟨c, A, z1, z2⟩ := own_arrN ev x1 (Cond.before_iff.mp (hsets _ (List.mem_of_getElem? (i := 28) rfl)))
    have y0 := (Cond.before_iff.mp (hsets _ (List.mem_of_getElem? (i := 30) rfl)))
    obtain ⟨b0, eb0⟩ := exa_v y0
    have g0 := (elem_in eb0 ev (Term.int_eval _) A.1).2
    have B0 := own_bd eb0 y0 (Cond.before_iff.mp (hsets _ (List.mem_of_getElem? (i := 31) rfl))) (Cond.before_iff.mp (hsets _ (List.mem_of_getElem? (i := 32) rfl)))
    have P0 : own_PR s s.heap b0 (1 : Int32) := Fld.start ((fld_at eb0).symm.trans (eqv_i (Term.int_eval _) (Cond.before_iff.mp (hsets _ (List.mem_of_getElem? (i := 125) rfl)))))
    have y1 := (Cond.before_iff.mp (hsets _ (List.mem_of_getElem? (i := 40) rfl)))
    obtain ⟨b1, eb1⟩ := exa_v y1
    have g1 := (elem_in eb1 ev (Term.int_eval _) A.1).2
    have B1 := own_bd eb1 y1 (Cond.before_iff.mp (hsets _ (List.mem_of_getElem? (i := 41) rfl))) (Cond.before_iff.mp (hsets _ (List.mem_of_getElem? (i := 42) rfl)))
    have P1 : own_PR s s.heap b1 (1 : Int32) := Fld.start ((fld_at eb1).symm.trans (eqv_i (Term.int_eval _) (Cond.before_iff.mp (hsets _ (List.mem_of_getElem? (i := 127) rfl)))))
    have y2 := (Cond.before_iff.mp (hsets _ (List.mem_of_getElem? (i := 50) rfl)))
    obtain ⟨b2, eb2⟩ := exa_v y2
    have g2 := (elem_in eb2 ev (Term.int_eval _) A.1).2
    have B2 := own_bd eb2 y2 (Cond.before_iff.mp (hsets _ (List.mem_of_getElem? (i := 51) rfl))) (Cond.before_iff.mp (hsets _ (List.mem_of_getElem? (i := 52) rfl)))
    have P2 : own_PR s s.heap b2 (1 : Int32) := Fld.start ((fld_at eb2).symm.trans (eqv_i (Term.int_eval _) (Cond.before_iff.mp (hsets _ (List.mem_of_getElem? (i := 129) rfl)))))
    have y3 := (Cond.before_iff.mp (hsets _ (List.mem_of_getElem? (i := 59) rfl)))
    obtain ⟨b3, eb3⟩ := exa_v y3
    have g3 := (elem_in eb3 ev (Term.int_eval _) A.1).2
    have B3 := own_bd eb3 y3 (Cond.before_iff.mp (hsets _ (List.mem_of_getElem? (i := 60) rfl))) (Cond.before_iff.mp (hsets _ (List.mem_of_getElem? (i := 61) rfl)))
    have P3 : own_PR s s.heap b3 (1 : Int32) := Fld.start ((fld_at eb3).symm.trans (eqv_i (Term.int_eval _) (Cond.before_iff.mp (hsets _ (List.mem_of_getElem? (i := 131) rfl)))))
    have y4 := (Cond.before_iff.mp (hsets _ (List.mem_of_getElem? (i := 67) rfl)))
    obtain ⟨b4, eb4⟩ := exa_v y4
    have g4 := (elem_in eb4 ev (Term.int_eval _) A.1).2
    have B4 := own_bd eb4 y4 (Cond.before_iff.mp (hsets _ (List.mem_of_getElem? (i := 68) rfl))) (Cond.before_iff.mp (hsets _ (List.mem_of_getElem? (i := 69) rfl)))
    have P4 : own_PR s s.heap b4 (1 : Int32) := Fld.start ((fld_at eb4).symm.trans (eqv_i (Term.int_eval _) (Cond.before_iff.mp (hsets _ (List.mem_of_getElem? (i := 133) rfl)))))
    have y5 := (Cond.before_iff.mp (hsets _ (List.mem_of_getElem? (i := 75) rfl)))
    obtain ⟨b5, eb5⟩ := exa_v y5
    have g5 := (elem_in eb5 ev (Term.int_eval _) A.1).2
    have B5 := own_bd eb5 y5 (Cond.before_iff.mp (hsets _ (List.mem_of_getElem? (i := 76) rfl))) (Cond.before_iff.mp (hsets _ (List.mem_of_getElem? (i := 77) rfl)))
    have P5 : own_PR s s.heap b5 (1 : Int32) := Fld.start ((fld_at eb5).symm.trans (eqv_i (Term.int_eval _) (Cond.before_iff.mp (hsets _ (List.mem_of_getElem? (i := 135) rfl)))))
    have y6 := (Cond.before_iff.mp (hsets _ (List.mem_of_getElem? (i := 83) rfl)))
    obtain ⟨b6, eb6⟩ := exa_v y6
    have g6 := (elem_in eb6 ev (Term.int_eval _) A.1).2
    have B6 := own_bd eb6 y6 (Cond.before_iff.mp (hsets _ (List.mem_of_getElem? (i := 84) rfl))) (Cond.before_iff.mp (hsets _ (List.mem_of_getElem? (i := 85) rfl)))
    have P6 : own_PR s s.heap b6 (1 : Int32) := Fld.start ((fld_at eb6).symm.trans (eqv_i (Term.int_eval _) (Cond.before_iff.mp (hsets _ (List.mem_of_getElem? (i := 137) rfl)))))
    have y7 := (Cond.before_iff.mp (hsets _ (List.mem_of_getElem? (i := 91) rfl)))
    obtain ⟨b7, eb7⟩ := exa_v y7
    have g7 := (elem_in eb7 ev (Term.int_eval _) A.1).2
    have B7 := own_bd eb7 y7 (Cond.before_iff.mp (hsets _ (List.mem_of_getElem? (i := 92) rfl))) (Cond.before_iff.mp (hsets _ (List.mem_of_getElem? (i := 93) rfl)))
    have P7 : own_PR s s.heap b7 (1 : Int32) := Fld.start ((fld_at eb7).symm.trans (eqv_i (Term.int_eval _) (Cond.before_iff.mp (hsets _ (List.mem_of_getElem? (i := 139) rfl)))))
    have y8 := (Cond.before_iff.mp (hsets _ (List.mem_of_getElem? (i := 99) rfl)))
    obtain ⟨b8, eb8⟩ := exa_v y8
    have g8 := (elem_in eb8 ev (Term.int_eval _) A.1).2
    have B8 := own_bd eb8 y8 (Cond.before_iff.mp (hsets _ (List.mem_of_getElem? (i := 100) rfl))) (Cond.before_iff.mp (hsets _ (List.mem_of_getElem? (i := 101) rfl)))
    have P8 : own_PR s s.heap b8 (1 : Int32) := Fld.start ((fld_at eb8).symm.trans (eqv_i (Term.int_eval _) (Cond.before_iff.mp (hsets _ (List.mem_of_getElem? (i := 141) rfl)))))
    have y9 := (Cond.before_iff.mp (hsets _ (List.mem_of_getElem? (i := 107) rfl)))
    obtain ⟨b9, eb9⟩ := exa_v y9
    have g9 := (elem_in eb9 ev (Term.int_eval _) A.1).2
    have B9 := own_bd eb9 y9 (Cond.before_iff.mp (hsets _ (List.mem_of_getElem? (i := 108) rfl))) (Cond.before_iff.mp (hsets _ (List.mem_of_getElem? (i := 109) rfl)))
    have P9 : own_PR s s.heap b9 (1 : Int32) := Fld.start ((fld_at eb9).symm.trans (eqv_i (Term.int_eval _) (Cond.before_iff.mp (hsets _ (List.mem_of_getElem? (i := 143) rfl)))))
    have y10 := (Cond.before_iff.mp (hsets _ (List.mem_of_getElem? (i := 116) rfl)))
    obtain ⟨b10, eb10⟩ := exa_v y10
    have g10 := (elem_in eb10 ev (Term.int_eval _) A.1).2
    have B10 := own_bd eb10 y10 (Cond.before_iff.mp (hsets _ (List.mem_of_getElem? (i := 117) rfl))) (Cond.before_iff.mp (hsets _ (List.mem_of_getElem? (i := 118) rfl)))
    have P10 : own_PR s s.heap b10 (2 : Int32) := Fld.start ((fld_at eb10).symm.trans (eqv_i (Term.int_eval _) (Cond.before_iff.mp (hsets _ (List.mem_of_getElem? (i := 145) rfl)))))
    refine ⟨a, c, Sta.start ev (Or.inl (hsets _ (List.mem_of_getElem? (i := 9) rfl))), A, (own_szN z1 z2).trans (by decide), fun i hi => ?_⟩
    rcases own_c11 hi with rfl | rfl | rfl | rfl | rfl | rfl | rfl | rfl | rfl | rfl | rfl
    · exact ⟨b0, g0, B0, P0⟩
    · exact ⟨b1, g1, B1, P1⟩
    · exact ⟨b2, g2, B2, P2⟩
    · exact ⟨b3, g3, B3, P3⟩
    · exact ⟨b4, g4, B4, P4⟩
    · exact ⟨b5, g5, B5, P5⟩
    · exact ⟨b6, g6, B6, P6⟩
    · exact ⟨b7, g7, B7, P7⟩
    · exact ⟨b8, g8, B8, P8⟩
    · exact ⟨b9, g9, B9, P9⟩
    · exact ⟨b10, g10, B10, P10⟩
  · have x1 := (Cond.before_iff.mp (hsets _ (List.mem_of_getElem? (i := 229) rfl)))
    obtain ⟨a, ev⟩ := arr_v x1
    obtain ⟨c, A, z1, z2⟩ := own_arrN ev x1 (Cond.before_iff.mp (hsets _ (List.mem_of_getElem? (i := 231) rfl)))
    have y0 := (Cond.before_iff.mp (hsets _ (List.mem_of_getElem? (i := 233) rfl)))
    obtain ⟨b0, eb0⟩ := exa_v y0
    have g0 := (elem_in eb0 ev (Term.int_eval _) A.1).2
    have B0 := own_bd eb0 y0 (Cond.before_iff.mp (hsets _ (List.mem_of_getElem? (i := 234) rfl))) (Cond.before_iff.mp (hsets _ (List.mem_of_getElem? (i := 235) rfl)))
    have y1 := (Cond.before_iff.mp (hsets _ (List.mem_of_getElem? (i := 242) rfl)))
    obtain ⟨b1, eb1⟩ := exa_v y1
    have g1 := (elem_in eb1 ev (Term.int_eval _) A.1).2
    have B1 := own_bd eb1 y1 (Cond.before_iff.mp (hsets _ (List.mem_of_getElem? (i := 243) rfl))) (Cond.before_iff.mp (hsets _ (List.mem_of_getElem? (i := 244) rfl)))
    have y2 := (Cond.before_iff.mp (hsets _ (List.mem_of_getElem? (i := 251) rfl)))
    obtain ⟨b2, eb2⟩ := exa_v y2
    have g2 := (elem_in eb2 ev (Term.int_eval _) A.1).2
    have B2 := own_bd eb2 y2 (Cond.before_iff.mp (hsets _ (List.mem_of_getElem? (i := 252) rfl))) (Cond.before_iff.mp (hsets _ (List.mem_of_getElem? (i := 253) rfl)))
    have y3 := (Cond.before_iff.mp (hsets _ (List.mem_of_getElem? (i := 260) rfl)))
    obtain ⟨b3, eb3⟩ := exa_v y3
    have g3 := (elem_in eb3 ev (Term.int_eval _) A.1).2
    have B3 := own_bd eb3 y3 (Cond.before_iff.mp (hsets _ (List.mem_of_getElem? (i := 261) rfl))) (Cond.before_iff.mp (hsets _ (List.mem_of_getElem? (i := 262) rfl)))
    have y4 := (Cond.before_iff.mp (hsets _ (List.mem_of_getElem? (i := 269) rfl)))
    obtain ⟨b4, eb4⟩ := exa_v y4
    have g4 := (elem_in eb4 ev (Term.int_eval _) A.1).2
    have B4 := own_bd eb4 y4 (Cond.before_iff.mp (hsets _ (List.mem_of_getElem? (i := 270) rfl))) (Cond.before_iff.mp (hsets _ (List.mem_of_getElem? (i := 271) rfl)))
    have y5 := (Cond.before_iff.mp (hsets _ (List.mem_of_getElem? (i := 278) rfl)))
    obtain ⟨b5, eb5⟩ := exa_v y5
    have g5 := (elem_in eb5 ev (Term.int_eval _) A.1).2
    have B5 := own_bd eb5 y5 (Cond.before_iff.mp (hsets _ (List.mem_of_getElem? (i := 279) rfl))) (Cond.before_iff.mp (hsets _ (List.mem_of_getElem? (i := 280) rfl)))
    have y6 := (Cond.before_iff.mp (hsets _ (List.mem_of_getElem? (i := 287) rfl)))
    obtain ⟨b6, eb6⟩ := exa_v y6
    have g6 := (elem_in eb6 ev (Term.int_eval _) A.1).2
    have B6 := own_bd eb6 y6 (Cond.before_iff.mp (hsets _ (List.mem_of_getElem? (i := 288) rfl))) (Cond.before_iff.mp (hsets _ (List.mem_of_getElem? (i := 289) rfl)))
    have y7 := (Cond.before_iff.mp (hsets _ (List.mem_of_getElem? (i := 296) rfl)))
    obtain ⟨b7, eb7⟩ := exa_v y7
    have g7 := (elem_in eb7 ev (Term.int_eval _) A.1).2
    have B7 := own_bd eb7 y7 (Cond.before_iff.mp (hsets _ (List.mem_of_getElem? (i := 297) rfl))) (Cond.before_iff.mp (hsets _ (List.mem_of_getElem? (i := 298) rfl)))
    have y8 := (Cond.before_iff.mp (hsets _ (List.mem_of_getElem? (i := 305) rfl)))
    obtain ⟨b8, eb8⟩ := exa_v y8
    have g8 := (elem_in eb8 ev (Term.int_eval _) A.1).2
    have B8 := own_bd eb8 y8 (Cond.before_iff.mp (hsets _ (List.mem_of_getElem? (i := 306) rfl))) (Cond.before_iff.mp (hsets _ (List.mem_of_getElem? (i := 307) rfl)))
    have y9 := (Cond.before_iff.mp (hsets _ (List.mem_of_getElem? (i := 314) rfl)))
    obtain ⟨b9, eb9⟩ := exa_v y9
    have g9 := (elem_in eb9 ev (Term.int_eval _) A.1).2
    have B9 := own_bd eb9 y9 (Cond.before_iff.mp (hsets _ (List.mem_of_getElem? (i := 315) rfl))) (Cond.before_iff.mp (hsets _ (List.mem_of_getElem? (i := 316) rfl)))
    have y10 := (Cond.before_iff.mp (hsets _ (List.mem_of_getElem? (i := 323) rfl)))
    obtain ⟨b10, eb10⟩ := exa_v y10
    have g10 := (elem_in eb10 ev (Term.int_eval _) A.1).2
    have B10 := own_bd eb10 y10 (Cond.before_iff.mp (hsets _ (List.mem_of_getElem? (i := 324) rfl))) (Cond.before_iff.mp (hsets _ (List.mem_of_getElem? (i := 325) rfl)))
    have y11 := (Cond.before_iff.mp (hsets _ (List.mem_of_getElem? (i := 332) rfl)))
    obtain ⟨b11, eb11⟩ := exa_v y11
    have g11 := (elem_in eb11 ev (Term.int_eval _) A.1).2
    have B11 := own_bd eb11 y11 (Cond.before_iff.mp (hsets _ (List.mem_of_getElem? (i := 333) rfl))) (Cond.before_iff.mp (hsets _ (List.mem_of_getElem? (i := 334) rfl)))
    have y12 := (Cond.before_iff.mp (hsets _ (List.mem_of_getElem? (i := 341) rfl)))
    obtain ⟨b12, eb12⟩ := exa_v y12
    have g12 := (elem_in eb12 ev (Term.int_eval _) A.1).2
    have B12 := own_bd eb12 y12 (Cond.before_iff.mp (hsets _ (List.mem_of_getElem? (i := 342) rfl))) (Cond.before_iff.mp (hsets _ (List.mem_of_getElem? (i := 343) rfl)))
    have y13 := (Cond.before_iff.mp (hsets _ (List.mem_of_getElem? (i := 350) rfl)))
    obtain ⟨b13, eb13⟩ := exa_v y13
    have g13 := (elem_in eb13 ev (Term.int_eval _) A.1).2
    have B13 := own_bd eb13 y13 (Cond.before_iff.mp (hsets _ (List.mem_of_getElem? (i := 351) rfl))) (Cond.before_iff.mp (hsets _ (List.mem_of_getElem? (i := 352) rfl)))
    have y14 := (Cond.before_iff.mp (hsets _ (List.mem_of_getElem? (i := 359) rfl)))
    obtain ⟨b14, eb14⟩ := exa_v y14
    have g14 := (elem_in eb14 ev (Term.int_eval _) A.1).2
    have B14 := own_bd eb14 y14 (Cond.before_iff.mp (hsets _ (List.mem_of_getElem? (i := 360) rfl))) (Cond.before_iff.mp (hsets _ (List.mem_of_getElem? (i := 361) rfl)))
    have y15 := (Cond.before_iff.mp (hsets _ (List.mem_of_getElem? (i := 368) rfl)))
    obtain ⟨b15, eb15⟩ := exa_v y15
    have g15 := (elem_in eb15 ev (Term.int_eval _) A.1).2
    have B15 := own_bd eb15 y15 (Cond.before_iff.mp (hsets _ (List.mem_of_getElem? (i := 369) rfl))) (Cond.before_iff.mp (hsets _ (List.mem_of_getElem? (i := 370) rfl)))
    refine ⟨a, c, Sta.start ev (Or.inl (hsets _ (List.mem_of_getElem? (i := 224) rfl))), A, (own_szN z1 z2).trans (by decide), fun i hi => ?_⟩
    rcases own_c16 hi with rfl | rfl | rfl | rfl | rfl | rfl | rfl | rfl | rfl | rfl | rfl | rfl | rfl | rfl | rfl | rfl
    · exact ⟨b0, g0, B0⟩
    · exact ⟨b1, g1, B1⟩
    · exact ⟨b2, g2, B2⟩
    · exact ⟨b3, g3, B3⟩
    · exact ⟨b4, g4, B4⟩
    · exact ⟨b5, g5, B5⟩
    · exact ⟨b6, g6, B6⟩
    · exact ⟨b7, g7, B7⟩
    · exact ⟨b8, g8, B8⟩
    · exact ⟨b9, g9, B9⟩
    · exact ⟨b10, g10, B10⟩
    · exact ⟨b11, g11, B11⟩
    · exact ⟨b12, g12, B12⟩
    · exact ⟨b13, g13, B13⟩
    · exact ⟨b14, g14, B14⟩
    · exact ⟨b15, g15, B15⟩
  · have x1 := (Cond.before_iff.mp (hsets _ (List.mem_of_getElem? (i := 150) rfl)))
    obtain ⟨b, ev⟩ := exa_v x1
    exact ⟨b, Sta.start ev (Or.inl (hsets _ (List.mem_of_getElem? (i := 11) rfl))), own_bd ev x1 (Cond.before_iff.mp (hsets _ (List.mem_of_getElem? (i := 151) rfl))) (Cond.before_iff.mp (hsets _ (List.mem_of_getElem? (i := 152) rfl)))⟩
  · obtain ⟨b, ev⟩ := exa_v (Cond.before_iff.mp (hsets _ (List.mem_of_getElem? (i := 218) rfl)))
    exact ⟨b, Sta.start ev (Or.inl (hsets _ (List.mem_of_getElem? (i := 13) rfl)))⟩
  · obtain ⟨b, ev⟩ := exa_v (Cond.before_iff.mp (hsets _ (List.mem_of_getElem? (i := 209) rfl)))
    exact ⟨b, Sta.start ev (Or.inl (hsets _ (List.mem_of_getElem? (i := 208) rfl))), Fld.start ((fld_at ev).symm.trans (eqv_i (Term.int_eval _) (Cond.before_iff.mp (hsets _ (List.mem_of_getElem? (i := 212) rfl)))))⟩
  · exact Sta.start (eqv_i (Term.int_eval _) (Cond.before_iff.mp (hsets _ (List.mem_of_getElem? (i := 215) rfl)))) (Or.inl (hsets _ (List.mem_of_getElem? (i := 214) rfl)))
def own_s1 (p : Int32) : Int32 := (p &&& (7 : Int32)) - (2 : Int32)
def own_s2 (p : Int32) : Int32 := ((p >>> ((3 : Int32) &&& 31)) &&& (7 : Int32)) - (2 : Int32)
theorem own_m7 (x : Int32) : own_S8 ((x &&& (7 : Int32)) - (2 : Int32)) := by
  have a : (x &&& (7 : Int32)).toInt = x.toInt % (2 ^ 3 : Nat) := c_mask x 7 3 (by decide) (by decide)
  have b := c_isub (x &&& (7 : Int32)) 2; have c := Int32.toInt_lt ((x &&& (7 : Int32)) - 2); have d := Int32.le_toInt ((x &&& (7 : Int32)) - 2)
  have k : (2 : Int32).toInt = 2 := rfl
  unfold own_S8
  omega
theorem own_s1S (p : Int32) : own_S8 (own_s1 p) := own_m7 p
theorem own_s2S (p : Int32) : own_S8 (own_s2 p) := own_m7 _
theorem own_m3 (x : Int32) : 0 ≤ (x &&& (3 : Int32)).toInt ∧ (x &&& (3 : Int32)).toInt ≤ 3 := by
  have a : (x &&& (3 : Int32)).toInt = x.toInt % (2 ^ 2 : Nat) := c_mask x 3 2 (by decide) (by decide)
  omega
theorem own_XL (x : Int32) : own_X x.toInt64 := by
  have a := c_i2l x; have b := Int32.toInt_lt x; have c := Int32.le_toInt x
  unfold own_X
  omega
theorem own_HB0 : own_HB 0 := by unfold own_HB; decide
theorem own_S0 : own_S8 0 := by unfold own_S8; decide
/-- the law's own rounding is the library's -/
theorem own_inc {z d : Int64} (hd : own_D d) : own_cm z d = 0 ↔ lcmpW ((own_abs (own_rm z d)) * (2 : Int64)) d < (0 : Int32) := by
  obtain ⟨q, r, e1, e2, e3, pp, nn⟩ := own_qri (z := z) hd
  have hd' := hd
  obtain ⟨d1, d2⟩ := hd'
  have rb : -10000000 < r ∧ r < 10000000 := by
    by_cases h : 0 ≤ z.toInt
    · have := pp h; omega
    · have := nn (by omega); omega
  have a1 := own_abs_i (own_rm z d) (by omega)
  have m1 := c_lmul (own_abs (own_rm z d)) 2; have m2 := Int64.toInt_lt (own_abs (own_rm z d) * 2); have m3 := Int64.le_toInt (own_abs (own_rm z d) * 2)
  have k2 : (2 : Int64).toInt = 2 := rfl
  rw [k2] at m1
  have n1 := c_lmul 2 (own_rm z d); have n2 := Int64.toInt_lt (2 * own_rm z d); have n3 := Int64.le_toInt (2 * own_rm z d)
  rw [k2] at n1
  have a2 := own_abs_i (2 * own_rm z d) (by omega)
  have a3 := own_abs_i d (by omega)
  have k0 : (0 : Int32).toInt = 0 := rfl
  have x1 : lcmpW ((own_abs (own_rm z d)) * (2 : Int64)) d < (0 : Int32) ↔ own_abs (2 * own_rm z d) < own_abs d := by
    rw [lw_lt, Int64.lt_iff_toInt_lt, Int64.lt_iff_toInt_lt]
    omega
  rw [x1]
  unfold own_cm own_ni own_lc
  by_cases q : lcmpW (own_abs (2 * own_rm z d)) (own_abs d) < (0 : Int32)
  · rw [if_pos q, if_pos (by decide)]
    exact ⟨fun _ => (lw_lt _ _).mp q, fun _ => rfl⟩
  · rw [if_neg q]
    constructor
    · intro h
      exfalso
      by_cases s : lcmpW (own_abs (2 * own_rm z d)) (own_abs d) = (0 : Int32)
      · rw [if_pos s] at h; exact absurd h (by decide)
      · rw [if_neg s] at h; exact absurd h (by decide)
    · intro h; exact absurd ((lw_lt _ _).mpr h) q
theorem own_cB {z : Int64} {s p : Int32} (hz : own_HB z) (hs : own_S8 s) (hp : own_S8 p) : own_HB (own_cz z s p) := by
  unfold own_cz
  split
  · rename_i h
    split
    · exact hz
    · obtain ⟨g1, g2, -⟩ := own_gap hs hp (Int32.lt_iff_toInt_lt.mp h)
      exact own_dvB hz (own_pD g1 g2)
  · exact hz
theorem pd_23 : parseMethodDescriptor "(I)Ljava/lang/Integer;" = some ⟨[.int], some (.object "java/lang/Integer")⟩ := by decide +kernel
theorem pd_24 : parseMethodDescriptor "(Ljava/lang/Integer;)V" = some ⟨[(.object "java/lang/Integer")], none⟩ := by decide +kernel
theorem pd_25 : parseMethodDescriptor "(Ljava/lang/Object;)Ljava/lang/Object;" = some ⟨[(.object "java/lang/Object")], some (.object "java/lang/Object")⟩ := by decide +kernel
theorem pd_26 : parseMethodDescriptor "(Lcom/example/tipple/tipple/Arithmetic;)V" = some ⟨[(.object "com/example/tipple/tipple/Arithmetic")], none⟩ := by decide +kernel
theorem pd_27 : parseMethodDescriptor "()Ljava/math/BigDecimal;" = some ⟨[], some (.object "java/math/BigDecimal")⟩ := by decide +kernel
theorem pd_28 : parseMethodDescriptor "(Ljava/lang/Object;)Z" = some ⟨[(.object "java/lang/Object")], some .boolean⟩ := by decide +kernel
theorem pd_29 : parseMethodDescriptor "(Ljava/math/BigDecimal;)V" = some ⟨[(.object "java/math/BigDecimal")], none⟩ := by decide +kernel
theorem pd_30 : parseMethodDescriptor "(II)I" = some ⟨[.int, .int], some .int⟩ := by decide +kernel
theorem pd_31 : parseMethodDescriptor "(I)J" = some ⟨[.int], some .long⟩ := by decide +kernel
theorem ef_rm0 (m : MethodId) (x0 : Int32) (x1 : Int32) (x2 : Int32) (x3 : Int32) : entryFrame m #[(.int x0), (.int x1), (.int x2), (.int x3)] maxLocals = mkF m 0 #[.val (.int x0), .val (.int x1), .val (.int x2), .val (.int x3), .unset, .unset, .unset, .unset, .unset, .unset, .unset, .unset, .unset, .unset, .unset, .unset, .unset, .unset, .unset, .unset, .unset, .unset, .unset, .unset, .unset, .unset, .unset, .unset, .unset] [] := by first | (simp [entryFrame, mkF, argsToLocals, Value.category, maxLocals]; done) | rfl
def Qrm0 (Z : State) (p1 : Int32) (p2 : Int32) (p3 : Int32) (p4 : Int32)  (h0 : Heap) (n0 : Nat) (v : Option Value) (h : Heap) (L : List Loc) : Prop := v = some (.int (1 : Int32)) ∧ Fr n0 L
theorem rm0 (l : Launch) (Z : State) (a0 : Array Value) (hw : ∀ d ∈ tables_1, d.before a0 Z = true) (ws : List Jvm.Cond) (p1 : Int32) (p2 : Int32) (p3 : Int32) (p4 : Int32)  (h0 : Heap) (n0 : Nat) (Z0 : n0 ≤ h0.size) (J : own_J Z) (O0 : Old Z n0 h0) :
    MetFree l x (head1 (Jvm.Cond.code x code maxLocals ret :: ws) room_1) (fun a U => a = #[(.int p1), (.int p2), (.int p3), (.int p4)] ∧ Z.Warmed39 U.vm ∧ U.heap = h0) (fun _ _ _ _ _ => True) (fun _ U o U' => ∃ v L, o = .returned v ∧ Qrm0 Z p1 p2 p3 p4  h0 n0 v U'.heap L ∧ FrameEnd U o U' L room_1.cells room_1.slots) := by
  refine MetFree.of_bodySF (plainFor_of_name pn_com_example_tipple_tipple_RunningSumValuePinLaw) hisR ?_
  intro p e s m args below meth c s₁ Bd hml0 hP hK
  obtain ⟨rfl, hZ, hh⟩ := hP
  have hx := Bd.exec
  have hby := Bd.bytes
  have hml : c.maxLocals = 29 := hml0
  have hown : s.vm.findClass "com/example/tipple/tipple/RunningSumValuePinLaw" = some m.cls := findClass_of_methodNamed Bd.named
  have hnm := (name_of_methodNamed Bd.named Bd.method).1
  have X0 : Stand p l e room_1 s m #[(.int p1), (.int p2), (.int p3), (.int p4)] below meth c s₁ [] 0 0 := Stand.of_body Bd
  have e0 : s₁.heap = h0 := by rw [← hh, Bd.state]; rfl
  have N0 := Fr.nil n0
  have pre0 : ∀ t, Steps p.tables e below (s₁.setTop (mkF m 0 #[.val (.int p1), .val (.int p2), .val (.int p3), .val (.int p4), .unset, .unset, .unset, .unset, .unset, .unset, .unset, .unset, .unset, .unset, .unset, .unset, .unset, .unset, .unset, .unset, .unset, .unset, .unset, .unset, .unset, .unset, .unset, .unset, .unset] [])) t → Steps p.tables e below (s₁.setTop (entryFrame m #[(.int p1), (.int p2), (.int p3), (.int p4)] maxLocals)) t := fun t k => castTop (ef_rm0 m p1 p2 p3 p4) k
  have hs1 := own_s1S p3
  have hs2 := own_s2S p3
  have hx1 := own_XL p1
  have hx2 := own_XL p2
  have hU := own_UB hx1 hx2 hs1 hs2
  obtain ⟨hM, -, ⟨ha1, ha2⟩, hb1, hb2⟩ := own_maxS hs1 hs2
  have pk1 : ∀ target, Steps p.tables e below (s₁.setTop (mkF m 21 #[.val (.int p1), .val (.int p2), .val (.int p3), .val (.int p4), .val (.int (own_s1 p3)), .val (.int (own_s2 p3)), .unset, .unset, .unset, .unset, .unset, .unset, .unset, .unset, .unset, .unset, .unset, .unset, .unset, .unset, .unset, .unset, .unset, .unset, .unset, .unset, .unset, .unset, .unset] [(.int (p4 &&& (4 : Int32)))])) target → Steps p.tables e below (s₁.setTop (mkF m 0 #[.val (.int p1), .val (.int p2), .val (.int p3), .val (.int p4), .unset, .unset, .unset, .unset, .unset, .unset, .unset, .unset, .unset, .unset, .unset, .unset, .unset, .unset, .unset, .unset, .unset, .unset, .unset, .unset, .unset, .unset, .unset, .unset, .unset] [])) target := by
    intro target kt
    show Steps p.tables e below (s₁.setTop (mkF m 0 #[.val (.int p1), .val (.int p2), .val (.int p3), .val (.int p4), .unset, .unset, .unset, .unset, .unset, .unset, .unset, .unset, .unset, .unset, .unset, .unset, .unset, .unset, .unset, .unset, .unset, .unset, .unset, .unset, .unset, .unset, .unset, .unset, .unset] [])) _
    refine XS.iloadN X0.here hx rfl (hb hby at_0) rfl ?_
    refine XS.bipush X0.here hx rfl (hb hby at_1) ?_
    refine XS.iand X0.here hx rfl (hb hby at_3) rfl ?_
    refine XS.iconst X0.here hx rfl (hb hby at_4) ?_
    refine XS.isub X0.here hx rfl (hb hby at_5) rfl ?_
    refine XS.istore X0.here hx rfl (hb hby at_6) rfl (l' := #[.val (.int p1), .val (.int p2), .val (.int p3), .val (.int p4), .val (.int (own_s1 p3)), .unset, .unset, .unset, .unset, .unset, .unset, .unset, .unset, .unset, .unset, .unset, .unset, .unset, .unset, .unset, .unset, .unset, .unset, .unset, .unset, .unset, .unset, .unset, .unset]) rfl ?_
    refine XS.iloadN X0.here hx rfl (hb hby at_8) rfl ?_
    refine XS.iconst X0.here hx rfl (hb hby at_9) ?_
    refine XS.ishr X0.here hx rfl (hb hby at_10) rfl ?_
    refine XS.bipush X0.here hx rfl (hb hby at_11) ?_
    refine XS.iand X0.here hx rfl (hb hby at_13) rfl ?_
    refine XS.iconst X0.here hx rfl (hb hby at_14) ?_
    refine XS.isub X0.here hx rfl (hb hby at_15) rfl ?_
    refine XS.istore X0.here hx rfl (hb hby at_16) rfl (l' := #[.val (.int p1), .val (.int p2), .val (.int p3), .val (.int p4), .val (.int (own_s1 p3)), .val (.int (own_s2 p3)), .unset, .unset, .unset, .unset, .unset, .unset, .unset, .unset, .unset, .unset, .unset, .unset, .unset, .unset, .unset, .unset, .unset, .unset, .unset, .unset, .unset, .unset, .unset]) rfl ?_
    refine XS.iloadN X0.here hx rfl (hb hby at_18) rfl ?_
    refine XS.iconst X0.here hx rfl (hb hby at_19) ?_
    refine XS.iand X0.here hx rfl (hb hby at_20) rfl ?_
    exact kt
  by_cases hq0 : (p4 &&& (4 : Int32)) = (0 : Int32)
  · obtain ⟨_, _, ⟨T2, L2, k2, n2⟩, -, X2, ⟨Lc2, hQ2, l2, y2, z2⟩, st2⟩ := Jvm.LawKit.callS X0 hx (y := m_41) hown (mvT hZ (own_w hw 0 rfl)) (mvT hZ (own_w hw 1 rfl)) (mvT hZ (own_w hw 2 rfl)) (mvT hZ (own_w hw 3 rfl)) (by decide) (backOf (W := 0) (rmIo l Z a0 hw [] (p4 &&& (3 : Int32))  h0 n0 Z0 J O0 (own_m3 p4)) hZ (own_w hw 3 rfl) (own_w hw 2 rfl) (by decide) (by decide)) (g := (mkF m 31 #[.val (.int p1), .val (.int p2), .val (.int p3), .val (.int p4), .val (.int (own_s1 p3)), .val (.int (own_s2 p3)), .unset, .unset, .unset, .unset, .unset, .unset, .unset, .unset, .unset, .unset, .unset, .unset, .unset, .unset, .unset, .unset, .unset, .unset, .unset, .unset, .unset, .unset, .unset] [(.int (p4 &&& (3 : Int32)))])) rfl (by rw [hml]; rfl) (argsL := [(.int (p4 &&& (3 : Int32)))]) (rest := []) (lenOf pd_23 rfl) rfl (by show 2 * 0 + _ ≤ _; exact Nat.le_of_eq rfl) (hb hby at_31) (fun _ _ => ⟨rfl, e0, (by decide : 0 + 0 ≤ _), (by decide : 0 + 0 ≤ _)⟩)
    dsimp only [Pt.U, Pt.locs, Pt.cells, Pt.slots] at X2 l2 y2 z2 st2 hQ2
    subst y2 z2
    obtain ⟨b2, rfl, N2q, e2, EI, FI⟩ := hQ2
    have N2 : Fr n0 L2 := by rw [l2]; exact Fr.app N0 N2q
    obtain ⟨_, _, ⟨T3, L3, k3, n3⟩, -, X3, ⟨Lc3, hQ3, l3, y3, z3⟩, st3⟩ := Jvm.LawKit.callS X2 hx (y := m_0) hown (mvT hZ (own_w hw 7 rfl)) (mvT hZ (own_w hw 8 rfl)) (mvT hZ (own_w hw 9 rfl)) (mvT hZ (own_w hw 10 rfl)) (by decide) (backOf (W := 0) (rmV2 l Z a0 hw [] (p1.toInt64) (own_s1 p3)  h0 n0 Z0 J O0 (own_hm hx1.b.h) (own_16 hs1)) hZ (own_w hw 10 rfl) (own_w hw 9 rfl) (by decide) (by decide)) (g := (mkF m 40 #[.val (.int p1), .val (.int p2), .val (.int p3), .val (.int p4), .val (.int (own_s1 p3)), .val (.int (own_s2 p3)), .val (.ref b2), .unset, .unset, .unset, .unset, .unset, .unset, .unset, .unset, .unset, .unset, .unset, .unset, .unset, .unset, .unset, .unset, .unset, .unset, .unset, .unset, .unset, .unset] [(.int (own_s1 p3)), (.long (p1.toInt64))])) rfl (by rw [hml]; rfl) (argsL := [(.long (p1.toInt64)), (.int (own_s1 p3))]) (rest := []) (lenOf pd_10 rfl) rfl (by show 2 * 0 + _ ≤ _; exact Nat.le_of_eq rfl) (hb hby at_40) (fun _ _ => ⟨rfl, e2, (by decide : 0 + 1 ≤ _), (by decide : 0 + 5 ≤ _)⟩)
    dsimp only [Pt.U, Pt.locs, Pt.cells, Pt.slots] at X3 l3 y3 z3 st3 hQ3
    subst y3 z3
    obtain ⟨b3, rfl, N3q, K3, q3, B3, P3⟩ := hQ3
    have N3 : Fr n0 L3 := by rw [l3]; exact Fr.app N2 N3q
    have Z4 : n0 ≤ T3.heap.size := Nat.le_trans Z0 K3.1
    obtain ⟨_, _, ⟨T5, L5, k5, n5⟩, -, X5, ⟨Lc5, hQ5, l5, y5, z5⟩, st5⟩ := Jvm.LawKit.callS X3 hx (y := m_0) hown (mvT hZ (own_w hw 7 rfl)) (mvT hZ (own_w hw 8 rfl)) (mvT hZ (own_w hw 9 rfl)) (mvT hZ (own_w hw 10 rfl)) (by decide) (backOf (W := 0) (rmV2 l Z a0 hw [] (p2.toInt64) (own_s2 p3)  T3.heap n0 Z4 J (O0.keep K3 all0) (own_hm hx2.b.h) (own_16 hs2)) hZ (own_w hw 10 rfl) (own_w hw 9 rfl) (by decide) (by decide)) (g := (mkF m 49 #[.val (.int p1), .val (.int p2), .val (.int p3), .val (.int p4), .val (.int (own_s1 p3)), .val (.int (own_s2 p3)), .val (.ref b2), .val (.ref b3), .unset, .unset, .unset, .unset, .unset, .unset, .unset, .unset, .unset, .unset, .unset, .unset, .unset, .unset, .unset, .unset, .unset, .unset, .unset, .unset, .unset] [(.int (own_s2 p3)), (.long (p2.toInt64))])) rfl (by rw [hml]; rfl) (argsL := [(.long (p2.toInt64)), (.int (own_s2 p3))]) (rest := []) (lenOf pd_10 rfl) rfl (by show 2 * 0 + _ ≤ _; exact Nat.le_of_eq rfl) (hb hby at_49) (fun _ _ => ⟨rfl, rfl, (by decide : 1 + 1 ≤ _), (by decide : 5 + 5 ≤ _)⟩)
    dsimp only [Pt.U, Pt.locs, Pt.cells, Pt.slots] at X5 l5 y5 z5 st5 hQ5
    subst y5 z5
    obtain ⟨b5, rfl, N5q, K5, q5, B5, P5⟩ := hQ5
    have N5 : Fr n0 L5 := by rw [l5]; exact Fr.app N3 N5q
    have Z6 : n0 ≤ T5.heap.size := Nat.le_trans Z4 K5.1
    obtain ⟨T7, h7, X7, e7, E7, A7, D7, -, st7⟩ := newO X5 hx hZ hown (own_w hw 39 rfl) (own_w hw 40 rfl) (own_w hw 41 rfl) rfl (g := (mkF m 54 #[.val (.int p1), .val (.int p2), .val (.int p3), .val (.int p4), .val (.int (own_s1 p3)), .val (.int (own_s2 p3)), .val (.ref b2), .val (.ref b3), .val (.ref b5), .unset, .unset, .unset, .unset, .unset, .unset, .unset, .unset, .unset, .unset, .unset, .unset, .unset, .unset, .unset, .unset, .unset, .unset, .unset, .unset] [])) rfl (hb hby at_54) (by decide) (by decide)
    obtain ⟨b7, gz7⟩ : ∃ z, z = T5.heap.size := ⟨_, rfl⟩
    rw [← gz7] at A7 D7 st7
    have f8 := EI.keep K3
    have f9 := f8.keep K5
    have ne_b2_b7 : b2 ≠ b7 := Nat.ne_of_lt (Nat.lt_of_lt_of_le f9.lt (Nat.le_of_eq gz7.symm))
    have f10 := B3.1.keep K5
    have ne_b3_b7 : b3 ≠ b7 := Nat.ne_of_lt (Nat.lt_of_lt_of_le f10.lt (Nat.le_of_eq gz7.symm))
    have ne_b5_b7 : b5 ≠ b7 := Nat.ne_of_lt (Nat.lt_of_lt_of_le B5.1.lt (Nat.le_of_eq gz7.symm))
    have g_b7 : n0 ≤ b7 := Nat.le_trans Z6 (Nat.le_of_eq gz7.symm)
    have sz_b7 : h0.size ≤ b7 := Nat.le_trans (((Keep.refl h0 []).trans K3 all0).trans K5 all0).1 (Nat.le_of_eq gz7.symm)
    have Z11 : n0 ≤ h7.size := Nat.le_trans Z6 E7.1
    have F_places_b7 : Fld Z h7 b7 "com/example/tipple/tipple/Arithmetic" "places" "Ljava/lang/Integer;" .null := D7 (Or.inr (own_w hw 47 rfl)) (ty := (.object "java/lang/Integer")) (by decide)
    obtain ⟨_, _, ⟨T12, L12, k12, n12⟩, -, X12, ⟨Lc12, hQ12, l12, y12, z12⟩, st12⟩ := X7.specialBack hx (y := m_12) rfl hown (mvT hZ (own_w hw 42 rfl)) (mvT hZ (own_w hw 43 rfl)) (mvT hZ (own_w hw 44 rfl)) (by decide) (backOf (W := 1) (rmArR l Z a0 hw [] b7 b2  h7 n0 Z11 A7 g_b7 F_places_b7) hZ (own_w hw 44 rfl) (own_w hw 41 rfl) (by decide) (by decide)) (g := (mkF m 60 #[.val (.int p1), .val (.int p2), .val (.int p3), .val (.int p4), .val (.int (own_s1 p3)), .val (.int (own_s2 p3)), .val (.ref b2), .val (.ref b3), .val (.ref b5), .unset, .unset, .unset, .unset, .unset, .unset, .unset, .unset, .unset, .unset, .unset, .unset, .unset, .unset, .unset, .unset, .unset, .unset, .unset, .unset] [(.ref b2), (.ref b7), (.ref b7)])) rfl (by rw [hml]; rfl) (Steps.refl _) (a := b7) (argsL := [(.ref b2)]) (rest := [(.ref b7)]) (lenOf pd_24 rfl) rfl (by show 2 * 0 + _ ≤ _; exact Nat.le_of_eq rfl) (hb hby at_60) (fun _ _ => ⟨rfl, e7, (by decide : 3 + 0 ≤ _), (by decide : 11 + 0 ≤ _)⟩)
    dsimp only [Pt.U, Pt.locs, Pt.cells, Pt.slots] at X12 l12 y12 z12 st12 hQ12
    subst y12 z12
    obtain ⟨rfl, N12q, K12, Ea12, Fa12⟩ := hQ12
    have N12 : Fr n0 L12 := by rw [l12]; exact Fr.app N5 N12q
    have Z13 : n0 ≤ T12.heap.size := Nat.le_trans Z11 K12.1
    obtain ⟨T14, h14, X14, e14, E14, A14, D14, -, st14⟩ := newO X12 hx hZ hown (own_w hw 48 rfl) (own_w hw 49 rfl) (own_w hw 50 rfl) rfl (g := (mkF m 65 #[.val (.int p1), .val (.int p2), .val (.int p3), .val (.int p4), .val (.int (own_s1 p3)), .val (.int (own_s2 p3)), .val (.ref b2), .val (.ref b3), .val (.ref b5), .val (.ref b7), .unset, .unset, .unset, .unset, .unset, .unset, .unset, .unset, .unset, .unset, .unset, .unset, .unset, .unset, .unset, .unset, .unset, .unset, .unset] [])) rfl (hb hby at_65) (by decide) (by decide)
    obtain ⟨b14, gz14⟩ : ∃ z, z = T12.heap.size := ⟨_, rfl⟩
    rw [← gz14] at A14 D14 st14
    have f15 := f9.ext E7
    have f16 := f15.keep K12
    have ne_b2_b14 : b2 ≠ b14 := Nat.ne_of_lt (Nat.lt_of_lt_of_le f16.lt (Nat.le_of_eq gz14.symm))
    have f17 := f10.ext E7
    have f18 := f17.keep K12
    have ne_b3_b14 : b3 ≠ b14 := Nat.ne_of_lt (Nat.lt_of_lt_of_le f18.lt (Nat.le_of_eq gz14.symm))
    have f19 := B5.1.ext E7
    have f20 := f19.keep K12
    have ne_b5_b14 : b5 ≠ b14 := Nat.ne_of_lt (Nat.lt_of_lt_of_le f20.lt (Nat.le_of_eq gz14.symm))
    have ne_b7_b14 : b7 ≠ b14 := Nat.ne_of_lt (Nat.lt_of_lt_of_le Ea12.lt (Nat.le_of_eq gz14.symm))
    have g_b14 : n0 ≤ b14 := Nat.le_trans Z13 (Nat.le_of_eq gz14.symm)
    have sz_b14 : h0.size ≤ b14 := Nat.le_trans (((((Keep.refl h0 []).trans K3 all0).trans K5 all0).ext E7).trans K12 (allS (Or.inr sz_b7) all0)).1 (Nat.le_of_eq gz14.symm)
    have Z21 : n0 ≤ h14.size := Nat.le_trans Z13 E14.1
    have F_this_0_b14 : Fld Z h14 b14 "com/example/tipple/tipple/Arithmetic$RunningSum" "this$0" "Lcom/example/tipple/tipple/Arithmetic;" .null := D14 (Or.inr (own_w hw 59 rfl)) (ty := (.object "com/example/tipple/tipple/Arithmetic")) (by decide)
    have F_value_b14 : Fld Z h14 b14 "com/example/tipple/tipple/Arithmetic$RunningSum" "value" "Ljava/math/BigDecimal;" .null := D14 (Or.inl (own_w hw 67 rfl)) (ty := (.object "java/math/BigDecimal")) (by decide)
    obtain ⟨_, _, ⟨T22, L22, k22, n22⟩, -, X22, ⟨Lc22, hQ22, l22, y22, z22⟩, st22⟩ := Jvm.LawKit.callS X14 hx (y := m_24) hown (mvT hZ (own_w hw 51 rfl)) (mvT hZ (own_w hw 52 rfl)) (mvT hZ (own_w hw 53 rfl)) (mvT hZ (own_w hw 54 rfl)) (by decide) (backOf (W := 3) (rmNn l Z a0 hw [] b7  h14 n0 Z21 ) hZ (own_w hw 54 rfl) (own_w hw 53 rfl) (by decide) (by decide)) (g := (mkF m 72 #[.val (.int p1), .val (.int p2), .val (.int p3), .val (.int p4), .val (.int (own_s1 p3)), .val (.int (own_s2 p3)), .val (.ref b2), .val (.ref b3), .val (.ref b5), .val (.ref b7), .unset, .unset, .unset, .unset, .unset, .unset, .unset, .unset, .unset, .unset, .unset, .unset, .unset, .unset, .unset, .unset, .unset, .unset, .unset] [(.ref b7), (.ref b7), (.ref b14), (.ref b14)])) rfl (by rw [hml]; rfl) (argsL := [(.ref b7)]) (rest := [(.ref b7), (.ref b14), (.ref b14)]) (lenOf pd_25 rfl) rfl (by show 2 * 0 + _ ≤ _; exact Nat.le_of_eq rfl) (hb hby at_72) (fun _ _ => ⟨rfl, e14, (by decide : 4 + 0 ≤ _), (by decide : 13 + 0 ≤ _)⟩)
    dsimp only [Pt.U, Pt.locs, Pt.cells, Pt.slots] at X22 l22 y22 z22 st22 hQ22
    subst y22 z22
    obtain ⟨rfl, N22q, e22⟩ := hQ22
    have N22 : Fr n0 L22 := by rw [l22]; exact Fr.app N12 N22q
    obtain ⟨_, _, ⟨T23, L23, k23, n23⟩, -, X23, ⟨Lc23, hQ23, l23, y23, z23⟩, st23⟩ := X22.specialBack hx (y := m_31) rfl hown (mvT hZ (own_w hw 55 rfl)) (mvT hZ (own_w hw 56 rfl)) (mvT hZ (own_w hw 57 rfl)) (by decide) (backOf (W := 1) (rmRsI l Z a0 hw [] b14 b7  h14 n0 Z21 A14 g_b14 F_value_b14 F_this_0_b14) hZ (own_w hw 57 rfl) (own_w hw 50 rfl) (by decide) (by decide)) (g := (mkF m 76 #[.val (.int p1), .val (.int p2), .val (.int p3), .val (.int p4), .val (.int (own_s1 p3)), .val (.int (own_s2 p3)), .val (.ref b2), .val (.ref b3), .val (.ref b5), .val (.ref b7), .unset, .unset, .unset, .unset, .unset, .unset, .unset, .unset, .unset, .unset, .unset, .unset, .unset, .unset, .unset, .unset, .unset, .unset, .unset] [(.ref b7), (.ref b14), (.ref b14)])) rfl (by rw [hml]; rfl) (Steps.refl _) (a := b14) (argsL := [(.ref b7)]) (rest := [(.ref b14)]) (lenOf pd_26 rfl) rfl (by show 2 * 0 + _ ≤ _; exact Nat.le_of_eq rfl) (hb hby at_76) (fun _ _ => ⟨rfl, e22, (by decide : 4 + 0 ≤ _), (by decide : 13 + 0 ≤ _)⟩)
    dsimp only [Pt.U, Pt.locs, Pt.cells, Pt.slots] at X23 l23 y23 z23 st23 hQ23
    subst y23 z23
    obtain ⟨rfl, N23q, K23, Ea23, Fa23, Ft23⟩ := hQ23
    have N23 : Fr n0 L23 := by rw [l23]; exact Fr.app N22 N23q
    have Z24 : n0 ≤ T23.heap.size := Nat.le_trans Z21 K23.1
    obtain ⟨cq25, kq25, q25a, q25b, q25c⟩ := isOf hZ rfl Ea23
    obtain ⟨_, _, ⟨T25, L25, k25, n25⟩, -, X25, ⟨Lc25, hQ25, l25, y25, z25⟩, st25⟩ := X23.virtualBack hx (y := m_2) (z := m_2) hown (mvT hZ (own_w hw 61 rfl)) (mvT hZ (own_w hw 62 rfl)) (notFace_of_selects (args := #[]) (mvT hZ (own_w hw 64 rfl))) (mvT hZ (own_w hw 64 rfl)) (mvT hZ (own_w hw 63 rfl)) (by decide) (backOf (W := 0) (rmVaN l Z a0 hw [] b14  T23.heap n0 Z24 J ((((((O0.keep K3 all0).keep K5 all0).ext E7).keep K12 (allS g_b7 all0)).ext E14).keep K23 (allS g_b14 all0)) Fa23) hZ (own_w hw 65 rfl) (own_w hw 50 rfl) (by decide) (by decide)) q25a q25c (g := (mkF m 83 #[.val (.int p1), .val (.int p2), .val (.int p3), .val (.int p4), .val (.int (own_s1 p3)), .val (.int (own_s2 p3)), .val (.ref b2), .val (.ref b3), .val (.ref b5), .val (.ref b7), .val (.ref b14), .unset, .unset, .unset, .unset, .unset, .unset, .unset, .unset, .unset, .unset, .unset, .unset, .unset, .unset, .unset, .unset, .unset, .unset] [(.ref b14)])) rfl (by rw [hml]; rfl) (Steps.refl _) (argsL := []) (rest := []) (lenOf pd_27 rfl) rfl (by show 2 * 0 + _ ≤ _; exact Nat.le_of_eq rfl) (hb hby at_83) (fun _ _ => ⟨rfl, rfl, (by decide : 4 + 0 ≤ _), (by decide : 13 + 0 ≤ _)⟩)
    dsimp only [Pt.U, Pt.locs, Pt.cells, Pt.slots] at X25 l25 y25 z25 st25 hQ25
    subst y25 z25
    obtain ⟨b25, rfl, N25q, e25, B25⟩ := hQ25
    have N25 : Fr n0 L25 := by rw [l25]; exact Fr.app N23 N25q
    obtain ⟨_, _, ⟨T26, L26, k26, n26⟩, -, X26, ⟨Lc26, hQ26, l26, y26, z26⟩, st26⟩ := Jvm.LawKit.callS X25 hx (y := m_0) hown (mvT hZ (own_w hw 7 rfl)) (mvT hZ (own_w hw 8 rfl)) (mvT hZ (own_w hw 9 rfl)) (mvT hZ (own_w hw 10 rfl)) (by decide) (backOf (W := 1) (rmV2 l Z a0 hw [] (0 : Int64) (0 : Int32)  T23.heap n0 Z24 J ((((((O0.keep K3 all0).keep K5 all0).ext E7).keep K12 (allS g_b7 all0)).ext E14).keep K23 (allS g_b14 all0)) (own_hm own_HB0) (own_16 own_S0)) hZ (own_w hw 10 rfl) (own_w hw 9 rfl) (by decide) (by decide)) (g := (mkF m 92 #[.val (.int p1), .val (.int p2), .val (.int p3), .val (.int p4), .val (.int (own_s1 p3)), .val (.int (own_s2 p3)), .val (.ref b2), .val (.ref b3), .val (.ref b5), .val (.ref b7), .val (.ref b14), .val (.ref b25), .unset, .unset, .unset, .unset, .unset, .unset, .unset, .unset, .unset, .unset, .unset, .unset, .unset, .unset, .unset, .unset, .unset] [(.int (0 : Int32)), (.long (0 : Int64)), (.ref b25)])) rfl (by rw [hml]; rfl) (argsL := [(.long (0 : Int64)), (.int (0 : Int32))]) (rest := [(.ref b25)]) (lenOf pd_10 rfl) rfl (by show 2 * 0 + _ ≤ _; exact Nat.le_of_eq rfl) (hb hby at_92) (fun _ _ => ⟨rfl, e25, (by decide : 4 + 1 ≤ _), (by decide : 13 + 5 ≤ _)⟩)
    dsimp only [Pt.U, Pt.locs, Pt.cells, Pt.slots] at X26 l26 y26 z26 st26 hQ26
    subst y26 z26
    obtain ⟨b26, rfl, N26q, K26, q26, B26, P26⟩ := hQ26
    have N26 : Fr n0 L26 := by rw [l26]; exact Fr.app N25 N26q
    have Z27 : n0 ≤ T26.heap.size := Nat.le_trans Z24 K26.1
    have f28 := B25.1.keep K26
    have f29 := B25.2.1.keep K26 nin0
    have f30 := B25.2.2.keep K26 nin0
    obtain ⟨cq31, kq31, q31a, q31b, q31c⟩ := isOf hZ rfl f28
    obtain ⟨_, _, ⟨T31, L31, k31, n31⟩, -, X31, ⟨Lc31, hQ31, l31, y31, z31⟩, st31⟩ := X26.virtualBack hx (y := m_1) (z := m_1) hown (mvT hZ (own_w hw 69 rfl)) (mvT hZ (own_w hw 70 rfl)) (notFace_of_selects (args := #[]) (mvT hZ (own_w hw 72 rfl))) (mvT hZ (own_w hw 72 rfl)) (mvT hZ (own_w hw 71 rfl)) (by decide) (backOf (W := 0) (rmEq l Z a0 hw [] b25 b26 (0 : Int32) (0 : Int64) T26.heap n0 Z27 ⟨f28, f29, f30⟩ ⟨B26.1, B26.2.1, B26.2.2⟩ (own_hm own_HB0)) hZ (own_w hw 73 rfl) (own_w hw 9 rfl) (by decide) (by decide)) q31a q31c (g := (mkF m 95 #[.val (.int p1), .val (.int p2), .val (.int p3), .val (.int p4), .val (.int (own_s1 p3)), .val (.int (own_s2 p3)), .val (.ref b2), .val (.ref b3), .val (.ref b5), .val (.ref b7), .val (.ref b14), .val (.ref b25), .unset, .unset, .unset, .unset, .unset, .unset, .unset, .unset, .unset, .unset, .unset, .unset, .unset, .unset, .unset, .unset, .unset] [(.ref b26), (.ref b25)])) rfl (by rw [hml]; rfl) (Steps.refl _) (argsL := [(.ref b26)]) (rest := []) (lenOf pd_28 rfl) rfl (by show 2 * 0 + _ ≤ _; exact Nat.le_of_eq rfl) (hb hby at_95) (fun _ _ => ⟨rfl, rfl, (by decide : 5 + 0 ≤ _), (by decide : 18 + 0 ≤ _)⟩)
    dsimp only [Pt.U, Pt.locs, Pt.cells, Pt.slots] at X31 l31 y31 z31 st31 hQ31
    subst y31 z31
    obtain ⟨rfl, N31q, e31⟩ := hQ31
    have N31 : Fr n0 L31 := by rw [l31]; exact Fr.app N26 N31q
    have f32 := Ea23.keep K26
    have f33 := Fa23.keep K26 nin0
    have f34 := Ft23.keep K26 nin0
    obtain ⟨cq35, kq35, q35a, q35b, q35c⟩ := isOf hZ e31 f32
    obtain ⟨_, _, ⟨T35, L35, k35, n35⟩, -, X35, ⟨Lc35, hQ35, l35, y35, z35⟩, st35⟩ := X31.virtualBack hx (y := m_3) (z := m_3) hown (mvT hZ (own_w hw 74 rfl)) (mvT hZ (own_w hw 75 rfl)) (notFace_of_selects (args := #[]) (mvT hZ (own_w hw 77 rfl))) (mvT hZ (own_w hw 77 rfl)) (mvT hZ (own_w hw 76 rfl)) (by decide) (backOf (W := 0) (rmRa1 l Z a0 hw [] b14 b3 b7 T26.heap n0 Z27 f32 g_b14 f33 f34) hZ (own_w hw 78 rfl) (own_w hw 50 rfl) (by decide) (by decide)) q35a q35c (g := (mkF m 104 #[.val (.int p1), .val (.int p2), .val (.int p3), .val (.int p4), .val (.int (own_s1 p3)), .val (.int (own_s2 p3)), .val (.ref b2), .val (.ref b3), .val (.ref b5), .val (.ref b7), .val (.ref b14), .val (.ref b25), .val (.int (1 : Int32)), .unset, .unset, .unset, .unset, .unset, .unset, .unset, .unset, .unset, .unset, .unset, .unset, .unset, .unset, .unset, .unset] [(.ref b3), (.ref b14)])) rfl (by rw [hml]; rfl) (Steps.refl _) (argsL := [(.ref b3)]) (rest := []) (lenOf pd_29 rfl) rfl (by show 2 * 0 + _ ≤ _; exact Nat.le_of_eq rfl) (hb hby at_104) (fun _ _ => ⟨rfl, e31, (by decide : 5 + 0 ≤ _), (by decide : 18 + 0 ≤ _)⟩)
    dsimp only [Pt.U, Pt.locs, Pt.cells, Pt.slots] at X35 l35 y35 z35 st35 hQ35
    subst y35 z35
    obtain ⟨rfl, N35q, K35, Ea35, Fa35, Ft35⟩ := hQ35
    have N35 : Fr n0 L35 := by rw [l35]; exact Fr.app N31 N35q
    have Z36 : n0 ≤ T35.heap.size := Nat.le_trans Z27 K35.1
    obtain ⟨cq37, kq37, q37a, q37b, q37c⟩ := isOf hZ rfl Ea35
    obtain ⟨_, _, ⟨T37, L37, k37, n37⟩, -, X37, ⟨Lc37, hQ37, l37, y37, z37⟩, st37⟩ := X35.virtualBack hx (y := m_2) (z := m_2) hown (mvT hZ (own_w hw 61 rfl)) (mvT hZ (own_w hw 62 rfl)) (notFace_of_selects (args := #[]) (mvT hZ (own_w hw 64 rfl))) (mvT hZ (own_w hw 64 rfl)) (mvT hZ (own_w hw 63 rfl)) (by decide) (backOf (W := 0) (rmVaR l Z a0 hw [] b14 b3 T35.heap n0 Z36 Fa35) hZ (own_w hw 65 rfl) (own_w hw 50 rfl) (by decide) (by decide)) q37a q37c (g := (mkF m 109 #[.val (.int p1), .val (.int p2), .val (.int p3), .val (.int p4), .val (.int (own_s1 p3)), .val (.int (own_s2 p3)), .val (.ref b2), .val (.ref b3), .val (.ref b5), .val (.ref b7), .val (.ref b14), .val (.ref b25), .val (.int (1 : Int32)), .unset, .unset, .unset, .unset, .unset, .unset, .unset, .unset, .unset, .unset, .unset, .unset, .unset, .unset, .unset, .unset] [(.ref b14)])) rfl (by rw [hml]; rfl) (Steps.refl _) (argsL := []) (rest := []) (lenOf pd_27 rfl) rfl (by show 2 * 0 + _ ≤ _; exact Nat.le_of_eq rfl) (hb hby at_109) (fun _ _ => ⟨rfl, rfl, (by decide : 5 + 0 ≤ _), (by decide : 18 + 0 ≤ _)⟩)
    dsimp only [Pt.U, Pt.locs, Pt.cells, Pt.slots] at X37 l37 y37 z37 st37 hQ37
    subst y37 z37
    obtain ⟨rfl, N37q, e37⟩ := hQ37
    have N37 : Fr n0 L37 := by rw [l37]; exact Fr.app N35 N37q
    obtain ⟨_, _, ⟨T38, L38, k38, n38⟩, -, X38, ⟨Lc38, hQ38, l38, y38, z38⟩, st38⟩ := Jvm.LawKit.callS X37 hx (y := m_0) hown (mvT hZ (own_w hw 7 rfl)) (mvT hZ (own_w hw 8 rfl)) (mvT hZ (own_w hw 9 rfl)) (mvT hZ (own_w hw 10 rfl)) (by decide) (backOf (W := 1) (rmV2 l Z a0 hw [] (p1.toInt64) (own_s1 p3)  T35.heap n0 Z36 J ((((((((O0.keep K3 all0).keep K5 all0).ext E7).keep K12 (allS g_b7 all0)).ext E14).keep K23 (allS g_b14 all0)).keep K26 all0).keep K35 (allS g_b14 all0)) (own_hm hx1.b.h) (own_16 hs1)) hZ (own_w hw 10 rfl) (own_w hw 9 rfl) (by decide) (by decide)) (g := (mkF m 120 #[.val (.int p1), .val (.int p2), .val (.int p3), .val (.int p4), .val (.int (own_s1 p3)), .val (.int (own_s2 p3)), .val (.ref b2), .val (.ref b3), .val (.ref b5), .val (.ref b7), .val (.ref b14), .val (.ref b25), .val (.int (1 : Int32)), .val (.ref b3), .unset, .unset, .unset, .unset, .unset, .unset, .unset, .unset, .unset, .unset, .unset, .unset, .unset, .unset, .unset] [(.int (own_s1 p3)), (.long (p1.toInt64)), (.ref b3)])) rfl (by rw [hml]; rfl) (argsL := [(.long (p1.toInt64)), (.int (own_s1 p3))]) (rest := [(.ref b3)]) (lenOf pd_10 rfl) rfl (by show 2 * 0 + _ ≤ _; exact Nat.le_of_eq rfl) (hb hby at_120) (fun _ _ => ⟨rfl, e37, (by decide : 5 + 1 ≤ _), (by decide : 18 + 5 ≤ _)⟩)
    dsimp only [Pt.U, Pt.locs, Pt.cells, Pt.slots] at X38 l38 y38 z38 st38 hQ38
    subst y38 z38
    obtain ⟨b38, rfl, N38q, K38, q38, B38, P38⟩ := hQ38
    have N38 : Fr n0 L38 := by rw [l38]; exact Fr.app N37 N38q
    have Z39 : n0 ≤ T38.heap.size := Nat.le_trans Z36 K38.1
    have f40 := f18.ext E14
    have f41 := f40.keep K23
    have f42 := f41.keep K26
    have f43 := f42.keep K35
    have f44 := f43.keep K38
    have f45 := B3.2.1.keep K5 nin0
    have f46 := f45.ext E7
    have f47 := f46.keep K12 (ninS ne_b3_b7 nin0)
    have f48 := f47.ext E14
    have f49 := f48.keep K23 (ninS ne_b3_b14 nin0)
    have f50 := f49.keep K26 nin0
    have f51 := f50.keep K35 (ninS ne_b3_b14 nin0)
    have f52 := f51.keep K38 nin0
    have f53 := B3.2.2.keep K5 nin0
    have f54 := f53.ext E7
    have f55 := f54.keep K12 (ninS ne_b3_b7 nin0)
    have f56 := f55.ext E14
    have f57 := f56.keep K23 (ninS ne_b3_b14 nin0)
    have f58 := f57.keep K26 nin0
    have f59 := f58.keep K35 (ninS ne_b3_b14 nin0)
    have f60 := f59.keep K38 nin0
    obtain ⟨cq61, kq61, q61a, q61b, q61c⟩ := isOf hZ rfl f44
    obtain ⟨_, _, ⟨T61, L61, k61, n61⟩, -, X61, ⟨Lc61, hQ61, l61, y61, z61⟩, st61⟩ := X38.virtualBack hx (y := m_1) (z := m_1) hown (mvT hZ (own_w hw 69 rfl)) (mvT hZ (own_w hw 70 rfl)) (notFace_of_selects (args := #[]) (mvT hZ (own_w hw 72 rfl))) (mvT hZ (own_w hw 72 rfl)) (mvT hZ (own_w hw 71 rfl)) (by decide) (backOf (W := 0) (rmEq l Z a0 hw [] b3 b38 (own_s1 p3) (p1.toInt64) T38.heap n0 Z39 ⟨f44, f52, f60⟩ ⟨B38.1, B38.2.1, B38.2.2⟩ (own_hm hx1.b.h)) hZ (own_w hw 73 rfl) (own_w hw 9 rfl) (by decide) (by decide)) q61a q61c (g := (mkF m 123 #[.val (.int p1), .val (.int p2), .val (.int p3), .val (.int p4), .val (.int (own_s1 p3)), .val (.int (own_s2 p3)), .val (.ref b2), .val (.ref b3), .val (.ref b5), .val (.ref b7), .val (.ref b14), .val (.ref b25), .val (.int (1 : Int32)), .val (.ref b3), .unset, .unset, .unset, .unset, .unset, .unset, .unset, .unset, .unset, .unset, .unset, .unset, .unset, .unset, .unset] [(.ref b38), (.ref b3)])) rfl (by rw [hml]; rfl) (Steps.refl _) (argsL := [(.ref b38)]) (rest := []) (lenOf pd_28 rfl) rfl (by show 2 * 0 + _ ≤ _; exact Nat.le_of_eq rfl) (hb hby at_123) (fun _ _ => ⟨rfl, rfl, (by decide : 6 + 0 ≤ _), (by decide : 23 + 0 ≤ _)⟩)
    dsimp only [Pt.U, Pt.locs, Pt.cells, Pt.slots] at X61 l61 y61 z61 st61 hQ61
    subst y61 z61
    obtain ⟨rfl, N61q, e61⟩ := hQ61
    have N61 : Fr n0 L61 := by rw [l61]; exact Fr.app N38 N61q
    have f62 := Fa12.ext E14
    have f63 := f62.keep K23 (ninS ne_b7_b14 nin0)
    have f64 := f63.keep K26 nin0
    have f65 := f64.keep K35 (ninS ne_b7_b14 nin0)
    have f66 := f65.keep K38 nin0
    have f67 := f16.ext E14
    have f68 := f67.keep K23
    have f69 := f68.keep K26
    have f70 := f69.keep K35
    have f71 := f70.keep K38
    have f72 := FI.keep K3 nin0
    have f73 := f72.keep K5 nin0
    have f74 := f73.ext E7
    have f75 := f74.keep K12 (ninS ne_b2_b7 nin0)
    have f76 := f75.ext E14
    have f77 := f76.keep K23 (ninS ne_b2_b14 nin0)
    have f78 := f77.keep K26 nin0
    have f79 := f78.keep K35 (ninS ne_b2_b14 nin0)
    have f80 := f79.keep K38 nin0
    have f81 := Ea35.keep K38
    have f82 := Fa35.keep K38 nin0
    have f83 := Ft35.keep K38 nin0
    have f84 := Ea12.ext E14
    have f85 := f84.keep K23
    have f86 := f85.keep K26
    have f87 := f86.keep K35
    have f88 := f87.keep K38
    have f89 := f20.ext E14
    have f90 := f89.keep K23
    have f91 := f90.keep K26
    have f92 := f91.keep K35
    have f93 := f92.keep K38
    have f94 := B5.2.1.ext E7
    have f95 := f94.keep K12 (ninS ne_b5_b7 nin0)
    have f96 := f95.ext E14
    have f97 := f96.keep K23 (ninS ne_b5_b14 nin0)
    have f98 := f97.keep K26 nin0
    have f99 := f98.keep K35 (ninS ne_b5_b14 nin0)
    have f100 := f99.keep K38 nin0
    have f101 := B5.2.2.ext E7
    have f102 := f101.keep K12 (ninS ne_b5_b7 nin0)
    have f103 := f102.ext E14
    have f104 := f103.keep K23 (ninS ne_b5_b14 nin0)
    have f105 := f104.keep K26 nin0
    have f106 := f105.keep K35 (ninS ne_b5_b14 nin0)
    have f107 := f106.keep K38 nin0
    obtain ⟨cq108, kq108, q108a, q108b, q108c⟩ := isOf hZ e61 f81
    obtain ⟨_, _, ⟨T108, L108, k108, n108⟩, -, X108, ⟨Lc108, hQ108, l108, y108, z108⟩, st108⟩ := X61.virtualBack hx (y := m_3) (z := m_3) hown (mvT hZ (own_w hw 74 rfl)) (mvT hZ (own_w hw 75 rfl)) (notFace_of_selects (args := #[]) (mvT hZ (own_w hw 77 rfl))) (mvT hZ (own_w hw 77 rfl)) (mvT hZ (own_w hw 76 rfl)) (by decide) (backOf (W := 0) (rmRa2 l Z a0 hw [] b14 b5 b3 b7 (p1.toInt64) (own_s1 p3) (p2.toInt64) (own_s2 p3) (some (p4 &&& (3 : Int32))) T38.heap n0 Z39 J (((((((((O0.keep K3 all0).keep K5 all0).ext E7).keep K12 (allS g_b7 all0)).ext E14).keep K23 (allS g_b14 all0)).keep K26 all0).keep K35 (allS g_b14 all0)).keep K38 all0) f81 g_b14 f82 f83 f88 ⟨b2, f66, f71, f80, own_m3 p4⟩ ⟨f44, f52, f60⟩ ⟨f93, f100, f107⟩ hx1 hx2 hs1 hs2) hZ (own_w hw 78 rfl) (own_w hw 50 rfl) (by decide) (by decide)) q108a q108c (g := (mkF m 132 #[.val (.int p1), .val (.int p2), .val (.int p3), .val (.int p4), .val (.int (own_s1 p3)), .val (.int (own_s2 p3)), .val (.ref b2), .val (.ref b3), .val (.ref b5), .val (.ref b7), .val (.ref b14), .val (.ref b25), .val (.int (1 : Int32)), .val (.ref b3), .val (.int (1 : Int32)), .unset, .unset, .unset, .unset, .unset, .unset, .unset, .unset, .unset, .unset, .unset, .unset, .unset, .unset] [(.ref b5), (.ref b14)])) rfl (by rw [hml]; rfl) (Steps.refl _) (argsL := [(.ref b5)]) (rest := []) (lenOf pd_29 rfl) rfl (by show 2 * 0 + _ ≤ _; exact Nat.le_of_eq rfl) (hb hby at_132) (fun _ _ => ⟨rfl, e61, (by decide : 6 + 2 ≤ _), (by decide : 23 + 10 ≤ _)⟩)
    dsimp only [Pt.U, Pt.locs, Pt.cells, Pt.slots] at X108 l108 y108 z108 st108 hQ108
    subst y108 z108
    obtain ⟨b108, rfl, N108q, K108, Ea108, Fa108, B108⟩ := hQ108
    have N108 : Fr n0 L108 := by rw [l108]; exact Fr.app N61 N108q
    have Z109 : n0 ≤ T108.heap.size := Nat.le_trans Z39 K108.1
    obtain ⟨cq110, kq110, q110a, q110b, q110c⟩ := isOf hZ rfl Ea108
    obtain ⟨_, _, ⟨T110, L110, k110, n110⟩, -, X110, ⟨Lc110, hQ110, l110, y110, z110⟩, st110⟩ := X108.virtualBack hx (y := m_2) (z := m_2) hown (mvT hZ (own_w hw 61 rfl)) (mvT hZ (own_w hw 62 rfl)) (notFace_of_selects (args := #[]) (mvT hZ (own_w hw 64 rfl))) (mvT hZ (own_w hw 64 rfl)) (mvT hZ (own_w hw 63 rfl)) (by decide) (backOf (W := 0) (rmVaR l Z a0 hw [] b14 b108 T108.heap n0 Z109 Fa108) hZ (own_w hw 65 rfl) (own_w hw 50 rfl) (by decide) (by decide)) q110a q110c (g := (mkF m 137 #[.val (.int p1), .val (.int p2), .val (.int p3), .val (.int p4), .val (.int (own_s1 p3)), .val (.int (own_s2 p3)), .val (.ref b2), .val (.ref b3), .val (.ref b5), .val (.ref b7), .val (.ref b14), .val (.ref b25), .val (.int (1 : Int32)), .val (.ref b3), .val (.int (1 : Int32)), .unset, .unset, .unset, .unset, .unset, .unset, .unset, .unset, .unset, .unset, .unset, .unset, .unset, .unset] [(.ref b14)])) rfl (by rw [hml]; rfl) (Steps.refl _) (argsL := []) (rest := []) (lenOf pd_27 rfl) rfl (by show 2 * 0 + _ ≤ _; exact Nat.le_of_eq rfl) (hb hby at_137) (fun _ _ => ⟨rfl, rfl, (by decide : 8 + 0 ≤ _), (by decide : 33 + 0 ≤ _)⟩)
    dsimp only [Pt.U, Pt.locs, Pt.cells, Pt.slots] at X110 l110 y110 z110 st110 hQ110
    subst y110 z110
    obtain ⟨rfl, N110q, e110⟩ := hQ110
    have N110 : Fr n0 L110 := by rw [l110]; exact Fr.app N108 N110q
    obtain ⟨_, _, ⟨T111, L111, k111, n111⟩, -, X111, ⟨Lc111, hQ111, l111, y111, z111⟩, st111⟩ := Jvm.LawKit.callS X110 hx (y := m_16) hown (mvT hZ (own_w hw 128 rfl)) (mvT hZ (own_w hw 129 rfl)) (mvT hZ (own_w hw 102 rfl)) (mvT hZ (own_w hw 130 rfl)) (by decide) (backOf (W := 0) (rmMax l Z a0 hw [] (own_s1 p3) (own_s2 p3)  T108.heap n0 Z109 ) hZ (own_w hw 130 rfl) (own_w hw 102 rfl) (by decide) (by decide)) (g := (mkF m 146 #[.val (.int p1), .val (.int p2), .val (.int p3), .val (.int p4), .val (.int (own_s1 p3)), .val (.int (own_s2 p3)), .val (.ref b2), .val (.ref b3), .val (.ref b5), .val (.ref b7), .val (.ref b14), .val (.ref b25), .val (.int (1 : Int32)), .val (.ref b3), .val (.int (1 : Int32)), .val (.ref b108), .unset, .unset, .unset, .unset, .unset, .unset, .unset, .unset, .unset, .unset, .unset, .unset, .unset] [(.int (own_s2 p3)), (.int (own_s1 p3))])) rfl (by rw [hml]; rfl) (argsL := [(.int (own_s1 p3)), (.int (own_s2 p3))]) (rest := []) (lenOf pd_30 rfl) rfl (by show 2 * 0 + _ ≤ _; exact Nat.le_of_eq rfl) (hb hby at_146) (fun _ _ => ⟨rfl, e110, (by decide : 8 + 0 ≤ _), (by decide : 33 + 0 ≤ _)⟩)
    dsimp only [Pt.U, Pt.locs, Pt.cells, Pt.slots] at X111 l111 y111 z111 st111 hQ111
    subst y111 z111
    obtain ⟨rfl, N111q, e111⟩ := hQ111
    have N111 : Fr n0 L111 := by rw [l111]; exact Fr.app N110 N111q
    obtain ⟨_, _, ⟨T112, L112, k112, n112⟩, -, X112, ⟨Lc112, hQ112, l112, y112, z112⟩, st112⟩ := Jvm.LawKit.callS X111 hx (y := m_8) hown (mvT hZ (own_w hw 131 rfl)) (mvT hZ (own_w hw 132 rfl)) (mvT hZ (own_w hw 133 rfl)) (mvT hZ (own_w hw 134 rfl)) (by decide) (backOf (W := 2) (rmP10 l Z a0 hw [] ((own_max (own_s1 p3) (own_s2 p3)) - (own_s1 p3))  T108.heap n0 Z109 ha1 ha2) hZ (own_w hw 134 rfl) (own_w hw 133 rfl) (by decide) (by decide)) (g := (mkF m 158 #[.val (.int p1), .val (.int p2), .val (.int p3), .val (.int p4), .val (.int (own_s1 p3)), .val (.int (own_s2 p3)), .val (.ref b2), .val (.ref b3), .val (.ref b5), .val (.ref b7), .val (.ref b14), .val (.ref b25), .val (.int (1 : Int32)), .val (.ref b3), .val (.int (1 : Int32)), .val (.ref b108), .val (.int (own_max (own_s1 p3) (own_s2 p3))), .unset, .unset, .unset, .unset, .unset, .unset, .unset, .unset, .unset, .unset, .unset, .unset] [(.int ((own_max (own_s1 p3) (own_s2 p3)) - (own_s1 p3))), (.long (p1.toInt64))])) rfl (by rw [hml]; rfl) (argsL := [(.int ((own_max (own_s1 p3) (own_s2 p3)) - (own_s1 p3)))]) (rest := [(.long (p1.toInt64))]) (lenOf pd_31 rfl) rfl (by show 2 * 0 + _ ≤ _; exact Nat.le_of_eq rfl) (hb hby at_158) (fun _ _ => ⟨rfl, e111, (by decide : 8 + 1 ≤ _), (by decide : 33 + 8 ≤ _)⟩)
    dsimp only [Pt.U, Pt.locs, Pt.cells, Pt.slots] at X112 l112 y112 z112 st112 hQ112
    subst y112 z112
    obtain ⟨rfl, N112q, K112⟩ := hQ112
    have N112 : Fr n0 L112 := by rw [l112]; exact Fr.app N111 N112q
    have Z113 : n0 ≤ T112.heap.size := Nat.le_trans Z109 K112.1
    obtain ⟨_, _, ⟨T114, L114, k114, n114⟩, -, X114, ⟨Lc114, hQ114, l114, y114, z114⟩, st114⟩ := Jvm.LawKit.callS X112 hx (y := m_8) hown (mvT hZ (own_w hw 131 rfl)) (mvT hZ (own_w hw 132 rfl)) (mvT hZ (own_w hw 133 rfl)) (mvT hZ (own_w hw 134 rfl)) (by decide) (backOf (W := 4) (rmP10 l Z a0 hw [] ((own_max (own_s1 p3) (own_s2 p3)) - (own_s2 p3))  T112.heap n0 Z113 hb1 hb2) hZ (own_w hw 134 rfl) (own_w hw 133 rfl) (by decide) (by decide)) (g := (mkF m 169 #[.val (.int p1), .val (.int p2), .val (.int p3), .val (.int p4), .val (.int (own_s1 p3)), .val (.int (own_s2 p3)), .val (.ref b2), .val (.ref b3), .val (.ref b5), .val (.ref b7), .val (.ref b14), .val (.ref b25), .val (.int (1 : Int32)), .val (.ref b3), .val (.int (1 : Int32)), .val (.ref b108), .val (.int (own_max (own_s1 p3) (own_s2 p3))), .unset, .unset, .unset, .unset, .unset, .unset, .unset, .unset, .unset, .unset, .unset, .unset] [(.int ((own_max (own_s1 p3) (own_s2 p3)) - (own_s2 p3))), (.long (p2.toInt64)), (.long ((p1.toInt64) * (own_pw ((own_max (own_s1 p3) (own_s2 p3)) - (own_s1 p3)))))])) rfl (by rw [hml]; rfl) (argsL := [(.int ((own_max (own_s1 p3) (own_s2 p3)) - (own_s2 p3)))]) (rest := [(.long (p2.toInt64)), (.long ((p1.toInt64) * (own_pw ((own_max (own_s1 p3) (own_s2 p3)) - (own_s1 p3)))))]) (lenOf pd_31 rfl) rfl (by show 2 * 0 + _ ≤ _; exact Nat.le_of_eq rfl) (hb hby at_169) (fun _ _ => ⟨rfl, rfl, (by decide : 9 + 1 ≤ _), (by decide : 41 + 8 ≤ _)⟩)
    dsimp only [Pt.U, Pt.locs, Pt.cells, Pt.slots] at X114 l114 y114 z114 st114 hQ114
    subst y114 z114
    obtain ⟨rfl, N114q, K114⟩ := hQ114
    have N114 : Fr n0 L114 := by rw [l114]; exact Fr.app N112 N114q
    have Z115 : n0 ≤ T114.heap.size := Nat.le_trans Z113 K114.1
    have f116 := f80.keep K108 (ninS ne_b2_b14 nin0)
    have f117 := f116.keep K112 nin0
    have f118 := f117.keep K114 nin0
    have f120 := f71.keep K108
    have f121 := f120.keep K112
    have f122 := f121.keep K114
    obtain ⟨cq119, kq119, q119a, q119b, q119c⟩ := isOf hZ rfl f122
    obtain ⟨_, _, ⟨T119, L119, k119, n119⟩, -, X119, ⟨Lc119, hQ119, l119, y119, z119⟩, st119⟩ := X114.virtualBack hx (y := m_4) (z := m_4) hown (mvT hZ (own_w hw 143 rfl)) (mvT hZ (own_w hw 122 rfl)) (notFace_of_selects (args := #[]) (mvT hZ (own_w hw 124 rfl))) (mvT hZ (own_w hw 124 rfl)) (mvT hZ (own_w hw 123 rfl)) (by decide) (backOf (W := 1) (rmIv l Z a0 hw [] b2 (p4 &&& (3 : Int32)) T114.heap n0 Z115 f118) hZ (own_w hw 125 rfl) (own_w hw 2 rfl) (by decide) (by decide)) q119a q119c (g := (mkF m 193 #[.val (.int p1), .val (.int p2), .val (.int p3), .val (.int p4), .val (.int (own_s1 p3)), .val (.int (own_s2 p3)), .val (.ref b2), .val (.ref b3), .val (.ref b5), .val (.ref b7), .val (.ref b14), .val (.ref b25), .val (.int (1 : Int32)), .val (.ref b3), .val (.int (1 : Int32)), .val (.ref b108), .val (.int (own_max (own_s1 p3) (own_s2 p3))), .val (.long (own_U (p1.toInt64) (own_s1 p3) (p2.toInt64) (own_s2 p3))), .second, .val (.long (own_U (p1.toInt64) (own_s1 p3) (p2.toInt64) (own_s2 p3))), .second, .val (.int (own_max (own_s1 p3) (own_s2 p3))), .unset, .unset, .unset, .unset, .unset, .unset, .unset] [(.ref b2), (.int (own_max (own_s1 p3) (own_s2 p3)))])) rfl (by rw [hml]; rfl) (Steps.refl _) (argsL := []) (rest := [(.int (own_max (own_s1 p3) (own_s2 p3)))]) (lenOf pd_15 rfl) rfl (by show 2 * 0 + _ ≤ _; exact Nat.le_of_eq rfl) (hb hby at_193) (fun _ _ => ⟨rfl, rfl, (by decide : 10 + 0 ≤ _), (by decide : 49 + 0 ≤ _)⟩)
    dsimp only [Pt.U, Pt.locs, Pt.cells, Pt.slots] at X119 l119 y119 z119 st119 hQ119
    subst y119 z119
    obtain ⟨rfl, N119q, e119⟩ := hQ119
    have N119 : Fr n0 L119 := by rw [l119]; exact Fr.app N114 N119q
    have pk123 : ∀ target, Steps p.tables e below (T119.setTop (mkF m 196 #[.val (.int p1), .val (.int p2), .val (.int p3), .val (.int p4), .val (.int (own_s1 p3)), .val (.int (own_s2 p3)), .val (.ref b2), .val (.ref b3), .val (.ref b5), .val (.ref b7), .val (.ref b14), .val (.ref b25), .val (.int (1 : Int32)), .val (.ref b3), .val (.int (1 : Int32)), .val (.ref b108), .val (.int (own_max (own_s1 p3) (own_s2 p3))), .val (.long (own_U (p1.toInt64) (own_s1 p3) (p2.toInt64) (own_s2 p3))), .second, .val (.long (own_U (p1.toInt64) (own_s1 p3) (p2.toInt64) (own_s2 p3))), .second, .val (.int (own_max (own_s1 p3) (own_s2 p3))), .unset, .unset, .unset, .unset, .unset, .unset, .unset] [(.int (p4 &&& (3 : Int32))), (.int (own_max (own_s1 p3) (own_s2 p3)))])) target → Steps p.tables e below (s₁.setTop (mkF m 0 #[.val (.int p1), .val (.int p2), .val (.int p3), .val (.int p4), .unset, .unset, .unset, .unset, .unset, .unset, .unset, .unset, .unset, .unset, .unset, .unset, .unset, .unset, .unset, .unset, .unset, .unset, .unset, .unset, .unset, .unset, .unset, .unset, .unset] [])) target := by
      intro target kt
      refine pk1 _ ?_
      show Steps p.tables e below (s₁.setTop (mkF m 21 #[.val (.int p1), .val (.int p2), .val (.int p3), .val (.int p4), .val (.int (own_s1 p3)), .val (.int (own_s2 p3)), .unset, .unset, .unset, .unset, .unset, .unset, .unset, .unset, .unset, .unset, .unset, .unset, .unset, .unset, .unset, .unset, .unset, .unset, .unset, .unset, .unset, .unset, .unset] [(.int (p4 &&& (4 : Int32)))])) _
      refine XS.ifYes X0.here hx rfl (pc0 := 21) (pc' := 28) rfl (hb hby at_21) rfl ((if0 _ _).trans (teq (hq0 : (p4 &&& (4 : Int32)) = (0 : Int32))).1) (by decide) (by decide) ?_
      refine XS.iloadN X0.here hx rfl (hb hby at_28) rfl ?_
      refine XS.iconst X0.here hx rfl (hb hby at_29) ?_
      refine XS.iand X0.here hx rfl (hb hby at_30) rfl ?_
      refine st2 _ ?_
      refine XS.astore X2.here hx rfl (hb hby at_34) rfl rfl (l' := #[.val (.int p1), .val (.int p2), .val (.int p3), .val (.int p4), .val (.int (own_s1 p3)), .val (.int (own_s2 p3)), .val (.ref b2), .unset, .unset, .unset, .unset, .unset, .unset, .unset, .unset, .unset, .unset, .unset, .unset, .unset, .unset, .unset, .unset, .unset, .unset, .unset, .unset, .unset, .unset]) rfl ?_
      refine XS.iloadN X2.here hx rfl (hb hby at_36) rfl ?_
      refine XS.i2l X2.here hx rfl (hb hby at_37) rfl ?_
      refine XS.iload X2.here hx rfl (hb hby at_38) rfl ?_
      refine st3 _ ?_
      refine XS.astore X3.here hx rfl (hb hby at_43) rfl rfl (l' := #[.val (.int p1), .val (.int p2), .val (.int p3), .val (.int p4), .val (.int (own_s1 p3)), .val (.int (own_s2 p3)), .val (.ref b2), .val (.ref b3), .unset, .unset, .unset, .unset, .unset, .unset, .unset, .unset, .unset, .unset, .unset, .unset, .unset, .unset, .unset, .unset, .unset, .unset, .unset, .unset, .unset]) rfl ?_
      refine XS.iloadN X3.here hx rfl (hb hby at_45) rfl ?_
      refine XS.i2l X3.here hx rfl (hb hby at_46) rfl ?_
      refine XS.iload X3.here hx rfl (hb hby at_47) rfl ?_
      refine st5 _ ?_
      refine XS.astore X5.here hx rfl (hb hby at_52) rfl rfl (l' := #[.val (.int p1), .val (.int p2), .val (.int p3), .val (.int p4), .val (.int (own_s1 p3)), .val (.int (own_s2 p3)), .val (.ref b2), .val (.ref b3), .val (.ref b5), .unset, .unset, .unset, .unset, .unset, .unset, .unset, .unset, .unset, .unset, .unset, .unset, .unset, .unset, .unset, .unset, .unset, .unset, .unset, .unset]) rfl ?_
      refine st7 _ ?_
      refine XS.dup X7.here hx rfl (hb hby at_57) rfl rfl ?_
      refine XS.aload X7.here hx rfl (hb hby at_58) rfl rfl ?_
      refine st12.trans ?_
      refine XS.astore X12.here hx rfl (hb hby at_63) rfl rfl (l' := #[.val (.int p1), .val (.int p2), .val (.int p3), .val (.int p4), .val (.int (own_s1 p3)), .val (.int (own_s2 p3)), .val (.ref b2), .val (.ref b3), .val (.ref b5), .val (.ref b7), .unset, .unset, .unset, .unset, .unset, .unset, .unset, .unset, .unset, .unset, .unset, .unset, .unset, .unset, .unset, .unset, .unset, .unset, .unset]) rfl ?_
      refine st14 _ ?_
      refine XS.dup X14.here hx rfl (hb hby at_68) rfl rfl ?_
      refine XS.aload X14.here hx rfl (hb hby at_69) rfl rfl ?_
      refine XS.dup X14.here hx rfl (hb hby at_71) rfl rfl ?_
      refine st22 _ ?_
      show Steps p.tables e below (T22.setTop (mkF m 75 #[.val (.int p1), .val (.int p2), .val (.int p3), .val (.int p4), .val (.int (own_s1 p3)), .val (.int (own_s2 p3)), .val (.ref b2), .val (.ref b3), .val (.ref b5), .val (.ref b7), .unset, .unset, .unset, .unset, .unset, .unset, .unset, .unset, .unset, .unset, .unset, .unset, .unset, .unset, .unset, .unset, .unset, .unset, .unset] [(.ref b7), (.ref b7), (.ref b14), (.ref b14)])) _
      refine XS.pop X22.here hx rfl (hb hby at_75) rfl rfl ?_
      refine st23.trans ?_
      refine XS.astore X23.here hx rfl (hb hby at_79) rfl rfl (l' := #[.val (.int p1), .val (.int p2), .val (.int p3), .val (.int p4), .val (.int (own_s1 p3)), .val (.int (own_s2 p3)), .val (.ref b2), .val (.ref b3), .val (.ref b5), .val (.ref b7), .val (.ref b14), .unset, .unset, .unset, .unset, .unset, .unset, .unset, .unset, .unset, .unset, .unset, .unset, .unset, .unset, .unset, .unset, .unset, .unset]) rfl ?_
      refine XS.aload X23.here hx rfl (hb hby at_81) rfl rfl ?_
      refine st25.trans ?_
      refine XS.astore X25.here hx rfl (hb hby at_86) rfl rfl (l' := #[.val (.int p1), .val (.int p2), .val (.int p3), .val (.int p4), .val (.int (own_s1 p3)), .val (.int (own_s2 p3)), .val (.ref b2), .val (.ref b3), .val (.ref b5), .val (.ref b7), .val (.ref b14), .val (.ref b25), .unset, .unset, .unset, .unset, .unset, .unset, .unset, .unset, .unset, .unset, .unset, .unset, .unset, .unset, .unset, .unset, .unset]) rfl ?_
      refine XS.aload X25.here hx rfl (hb hby at_88) rfl rfl ?_
      refine XS.lconst X25.here hx rfl (hb hby at_90) ?_
      refine XS.iconst X25.here hx rfl (hb hby at_91) ?_
      refine st26 _ ?_
      refine st31.trans ?_
      refine XS.istore X31.here hx rfl (hb hby at_98) rfl (l' := #[.val (.int p1), .val (.int p2), .val (.int p3), .val (.int p4), .val (.int (own_s1 p3)), .val (.int (own_s2 p3)), .val (.ref b2), .val (.ref b3), .val (.ref b5), .val (.ref b7), .val (.ref b14), .val (.ref b25), .val (.int (1 : Int32)), .unset, .unset, .unset, .unset, .unset, .unset, .unset, .unset, .unset, .unset, .unset, .unset, .unset, .unset, .unset, .unset]) rfl ?_
      refine XS.aload X31.here hx rfl (hb hby at_100) rfl rfl ?_
      refine XS.aload X31.here hx rfl (hb hby at_102) rfl rfl ?_
      refine st35.trans ?_
      refine XS.aload X35.here hx rfl (hb hby at_107) rfl rfl ?_
      refine st37.trans ?_
      refine XS.astore X37.here hx rfl (hb hby at_112) rfl rfl (l' := #[.val (.int p1), .val (.int p2), .val (.int p3), .val (.int p4), .val (.int (own_s1 p3)), .val (.int (own_s2 p3)), .val (.ref b2), .val (.ref b3), .val (.ref b5), .val (.ref b7), .val (.ref b14), .val (.ref b25), .val (.int (1 : Int32)), .val (.ref b3), .unset, .unset, .unset, .unset, .unset, .unset, .unset, .unset, .unset, .unset, .unset, .unset, .unset, .unset, .unset]) rfl ?_
      refine XS.aload X37.here hx rfl (hb hby at_114) rfl rfl ?_
      refine XS.iloadN X37.here hx rfl (hb hby at_116) rfl ?_
      refine XS.i2l X37.here hx rfl (hb hby at_117) rfl ?_
      refine XS.iload X37.here hx rfl (hb hby at_118) rfl ?_
      refine st38 _ ?_
      refine st61.trans ?_
      refine XS.istore X61.here hx rfl (hb hby at_126) rfl (l' := #[.val (.int p1), .val (.int p2), .val (.int p3), .val (.int p4), .val (.int (own_s1 p3)), .val (.int (own_s2 p3)), .val (.ref b2), .val (.ref b3), .val (.ref b5), .val (.ref b7), .val (.ref b14), .val (.ref b25), .val (.int (1 : Int32)), .val (.ref b3), .val (.int (1 : Int32)), .unset, .unset, .unset, .unset, .unset, .unset, .unset, .unset, .unset, .unset, .unset, .unset, .unset, .unset]) rfl ?_
      refine XS.aload X61.here hx rfl (hb hby at_128) rfl rfl ?_
      show Steps p.tables e below (T61.setTop (mkF m 130 #[.val (.int p1), .val (.int p2), .val (.int p3), .val (.int p4), .val (.int (own_s1 p3)), .val (.int (own_s2 p3)), .val (.ref b2), .val (.ref b3), .val (.ref b5), .val (.ref b7), .val (.ref b14), .val (.ref b25), .val (.int (1 : Int32)), .val (.ref b3), .val (.int (1 : Int32)), .unset, .unset, .unset, .unset, .unset, .unset, .unset, .unset, .unset, .unset, .unset, .unset, .unset, .unset] [(.ref b14)])) _
      refine XS.aload X61.here hx rfl (hb hby at_130) rfl rfl ?_
      refine st108.trans ?_
      refine XS.aload X108.here hx rfl (hb hby at_135) rfl rfl ?_
      refine st110.trans ?_
      refine XS.astore X110.here hx rfl (hb hby at_140) rfl rfl (l' := #[.val (.int p1), .val (.int p2), .val (.int p3), .val (.int p4), .val (.int (own_s1 p3)), .val (.int (own_s2 p3)), .val (.ref b2), .val (.ref b3), .val (.ref b5), .val (.ref b7), .val (.ref b14), .val (.ref b25), .val (.int (1 : Int32)), .val (.ref b3), .val (.int (1 : Int32)), .val (.ref b108), .unset, .unset, .unset, .unset, .unset, .unset, .unset, .unset, .unset, .unset, .unset, .unset, .unset]) rfl ?_
      refine XS.iload X110.here hx rfl (hb hby at_142) rfl ?_
      refine XS.iload X110.here hx rfl (hb hby at_144) rfl ?_
      refine st111 _ ?_
      refine XS.istore X111.here hx rfl (hb hby at_149) rfl (l' := #[.val (.int p1), .val (.int p2), .val (.int p3), .val (.int p4), .val (.int (own_s1 p3)), .val (.int (own_s2 p3)), .val (.ref b2), .val (.ref b3), .val (.ref b5), .val (.ref b7), .val (.ref b14), .val (.ref b25), .val (.int (1 : Int32)), .val (.ref b3), .val (.int (1 : Int32)), .val (.ref b108), .val (.int (own_max (own_s1 p3) (own_s2 p3))), .unset, .unset, .unset, .unset, .unset, .unset, .unset, .unset, .unset, .unset, .unset, .unset]) rfl ?_
      refine XS.iloadN X111.here hx rfl (hb hby at_151) rfl ?_
      refine XS.i2l X111.here hx rfl (hb hby at_152) rfl ?_
      refine XS.iload X111.here hx rfl (hb hby at_153) rfl ?_
      refine XS.iload X111.here hx rfl (hb hby at_155) rfl ?_
      refine XS.isub X111.here hx rfl (hb hby at_157) rfl ?_
      refine st112 _ ?_
      refine XS.lmul X112.here hx rfl (hb hby at_161) rfl ?_
      refine XS.iloadN X112.here hx rfl (hb hby at_162) rfl ?_
      refine XS.i2l X112.here hx rfl (hb hby at_163) rfl ?_
      refine XS.iload X112.here hx rfl (hb hby at_164) rfl ?_
      refine XS.iload X112.here hx rfl (hb hby at_166) rfl ?_
      refine XS.isub X112.here hx rfl (hb hby at_168) rfl ?_
      refine st114 _ ?_
      refine XS.lmul X114.here hx rfl (hb hby at_172) rfl ?_
      refine XS.ladd X114.here hx rfl (hb hby at_173) rfl ?_
      refine XS.lstore X114.here hx rfl (hb hby at_174) rfl (l' := #[.val (.int p1), .val (.int p2), .val (.int p3), .val (.int p4), .val (.int (own_s1 p3)), .val (.int (own_s2 p3)), .val (.ref b2), .val (.ref b3), .val (.ref b5), .val (.ref b7), .val (.ref b14), .val (.ref b25), .val (.int (1 : Int32)), .val (.ref b3), .val (.int (1 : Int32)), .val (.ref b108), .val (.int (own_max (own_s1 p3) (own_s2 p3))), .val (.long (own_U (p1.toInt64) (own_s1 p3) (p2.toInt64) (own_s2 p3))), .second, .unset, .unset, .unset, .unset, .unset, .unset, .unset, .unset, .unset, .unset]) rfl ?_
      refine XS.lload X114.here hx rfl (hb hby at_176) rfl ?_
      show Steps p.tables e below (T114.setTop (mkF m 178 #[.val (.int p1), .val (.int p2), .val (.int p3), .val (.int p4), .val (.int (own_s1 p3)), .val (.int (own_s2 p3)), .val (.ref b2), .val (.ref b3), .val (.ref b5), .val (.ref b7), .val (.ref b14), .val (.ref b25), .val (.int (1 : Int32)), .val (.ref b3), .val (.int (1 : Int32)), .val (.ref b108), .val (.int (own_max (own_s1 p3) (own_s2 p3))), .val (.long (own_U (p1.toInt64) (own_s1 p3) (p2.toInt64) (own_s2 p3))), .second, .unset, .unset, .unset, .unset, .unset, .unset, .unset, .unset, .unset, .unset] [(.long (own_U (p1.toInt64) (own_s1 p3) (p2.toInt64) (own_s2 p3)))])) _
      refine XS.lstore X114.here hx rfl (hb hby at_178) rfl (l' := #[.val (.int p1), .val (.int p2), .val (.int p3), .val (.int p4), .val (.int (own_s1 p3)), .val (.int (own_s2 p3)), .val (.ref b2), .val (.ref b3), .val (.ref b5), .val (.ref b7), .val (.ref b14), .val (.ref b25), .val (.int (1 : Int32)), .val (.ref b3), .val (.int (1 : Int32)), .val (.ref b108), .val (.int (own_max (own_s1 p3) (own_s2 p3))), .val (.long (own_U (p1.toInt64) (own_s1 p3) (p2.toInt64) (own_s2 p3))), .second, .val (.long (own_U (p1.toInt64) (own_s1 p3) (p2.toInt64) (own_s2 p3))), .second, .unset, .unset, .unset, .unset, .unset, .unset, .unset, .unset]) rfl ?_
      refine XS.iload X114.here hx rfl (hb hby at_180) rfl ?_
      refine XS.istore X114.here hx rfl (hb hby at_182) rfl (l' := #[.val (.int p1), .val (.int p2), .val (.int p3), .val (.int p4), .val (.int (own_s1 p3)), .val (.int (own_s2 p3)), .val (.ref b2), .val (.ref b3), .val (.ref b5), .val (.ref b7), .val (.ref b14), .val (.ref b25), .val (.int (1 : Int32)), .val (.ref b3), .val (.int (1 : Int32)), .val (.ref b108), .val (.int (own_max (own_s1 p3) (own_s2 p3))), .val (.long (own_U (p1.toInt64) (own_s1 p3) (p2.toInt64) (own_s2 p3))), .second, .val (.long (own_U (p1.toInt64) (own_s1 p3) (p2.toInt64) (own_s2 p3))), .second, .val (.int (own_max (own_s1 p3) (own_s2 p3))), .unset, .unset, .unset, .unset, .unset, .unset, .unset]) rfl ?_
      refine XS.aload X114.here hx rfl (hb hby at_184) rfl rfl ?_
      refine XS.ifnullNo X114.here hx rfl (hb hby at_186) rfl ?_
      refine XS.iload X114.here hx rfl (hb hby at_189) rfl ?_
      refine XS.aload X114.here hx rfl (hb hby at_191) rfl rfl ?_
      refine st119.trans ?_
      exact kt
    by_cases hq1 : (p4 &&& (3 : Int32)) < (own_max (own_s1 p3) (own_s2 p3))
    · have hp8 := own_S3 (own_m3 p4)
      obtain ⟨gp1, gp2, gp3, gp4, gp5⟩ := own_gap hM hp8 (Int32.lt_iff_toInt_lt.mp hq1)
      have hD := own_pD gp1 gp2
      obtain ⟨-, hQ1, hQ2⟩ := own_q1 hU hD
      obtain ⟨cq124, kq124, q124a, q124b, q124c⟩ := isOf hZ e119 f122
      obtain ⟨_, _, ⟨T124, L124, k124, n124⟩, -, X124, ⟨Lc124, hQ124, l124, y124, z124⟩, st124⟩ := X119.virtualBack hx (y := m_4) (z := m_4) hown (mvT hZ (own_w hw 143 rfl)) (mvT hZ (own_w hw 122 rfl)) (notFace_of_selects (args := #[]) (mvT hZ (own_w hw 124 rfl))) (mvT hZ (own_w hw 124 rfl)) (mvT hZ (own_w hw 123 rfl)) (by decide) (backOf (W := 0) (rmIv l Z a0 hw [] b2 (p4 &&& (3 : Int32)) T114.heap n0 Z115 f118) hZ (own_w hw 125 rfl) (own_w hw 2 rfl) (by decide) (by decide)) q124a q124c (g := (mkF m 201 #[.val (.int p1), .val (.int p2), .val (.int p3), .val (.int p4), .val (.int (own_s1 p3)), .val (.int (own_s2 p3)), .val (.ref b2), .val (.ref b3), .val (.ref b5), .val (.ref b7), .val (.ref b14), .val (.ref b25), .val (.int (1 : Int32)), .val (.ref b3), .val (.int (1 : Int32)), .val (.ref b108), .val (.int (own_max (own_s1 p3) (own_s2 p3))), .val (.long (own_U (p1.toInt64) (own_s1 p3) (p2.toInt64) (own_s2 p3))), .second, .val (.long (own_U (p1.toInt64) (own_s1 p3) (p2.toInt64) (own_s2 p3))), .second, .val (.int (own_max (own_s1 p3) (own_s2 p3))), .unset, .unset, .unset, .unset, .unset, .unset, .unset] [(.ref b2)])) rfl (by rw [hml]; rfl) (Steps.refl _) (argsL := []) (rest := []) (lenOf pd_15 rfl) rfl (by show 2 * 0 + _ ≤ _; exact Nat.le_of_eq rfl) (hb hby at_201) (fun _ _ => ⟨rfl, e119, (by decide : 10 + 0 ≤ _), (by decide : 49 + 0 ≤ _)⟩)
      dsimp only [Pt.U, Pt.locs, Pt.cells, Pt.slots] at X124 l124 y124 z124 st124 hQ124
      subst y124 z124
      obtain ⟨rfl, N124q, e124⟩ := hQ124
      have N124 : Fr n0 L124 := by rw [l124]; exact Fr.app N119 N124q
      obtain ⟨_, _, ⟨T125, L125, k125, n125⟩, -, X125, ⟨Lc125, hQ125, l125, y125, z125⟩, st125⟩ := Jvm.LawKit.callS X124 hx (y := m_8) hown (mvT hZ (own_w hw 131 rfl)) (mvT hZ (own_w hw 132 rfl)) (mvT hZ (own_w hw 133 rfl)) (mvT hZ (own_w hw 134 rfl)) (by decide) (backOf (W := 0) (rmP10 l Z a0 hw [] ((own_max (own_s1 p3) (own_s2 p3)) - (p4 &&& (3 : Int32)))  T114.heap n0 Z115 (by omega) gp2) hZ (own_w hw 134 rfl) (own_w hw 133 rfl) (by decide) (by decide)) (g := (mkF m 211 #[.val (.int p1), .val (.int p2), .val (.int p3), .val (.int p4), .val (.int (own_s1 p3)), .val (.int (own_s2 p3)), .val (.ref b2), .val (.ref b3), .val (.ref b5), .val (.ref b7), .val (.ref b14), .val (.ref b25), .val (.int (1 : Int32)), .val (.ref b3), .val (.int (1 : Int32)), .val (.ref b108), .val (.int (own_max (own_s1 p3) (own_s2 p3))), .val (.long (own_U (p1.toInt64) (own_s1 p3) (p2.toInt64) (own_s2 p3))), .second, .val (.long (own_U (p1.toInt64) (own_s1 p3) (p2.toInt64) (own_s2 p3))), .second, .val (.int (own_max (own_s1 p3) (own_s2 p3))), .val (.int (p4 &&& (3 : Int32))), .unset, .unset, .unset, .unset, .unset, .unset] [(.int ((own_max (own_s1 p3) (own_s2 p3)) - (p4 &&& (3 : Int32))))])) rfl (by rw [hml]; rfl) (argsL := [(.int ((own_max (own_s1 p3) (own_s2 p3)) - (p4 &&& (3 : Int32))))]) (rest := []) (lenOf pd_31 rfl) rfl (by show 2 * 0 + _ ≤ _; exact Nat.le_of_eq rfl) (hb hby at_211) (fun _ _ => ⟨rfl, e124, (by decide : 10 + 1 ≤ _), (by decide : 49 + 8 ≤ _)⟩)
      dsimp only [Pt.U, Pt.locs, Pt.cells, Pt.slots] at X125 l125 y125 z125 st125 hQ125
      subst y125 z125
      obtain ⟨rfl, N125q, K125⟩ := hQ125
      have N125 : Fr n0 L125 := by rw [l125]; exact Fr.app N124 N125q
      have Z126 : n0 ≤ T125.heap.size := Nat.le_trans Z115 K125.1
      have pk127 : ∀ target, Steps p.tables e below (T125.setTop (mkF m 234 #[.val (.int p1), .val (.int p2), .val (.int p3), .val (.int p4), .val (.int (own_s1 p3)), .val (.int (own_s2 p3)), .val (.ref b2), .val (.ref b3), .val (.ref b5), .val (.ref b7), .val (.ref b14), .val (.ref b25), .val (.int (1 : Int32)), .val (.ref b3), .val (.int (1 : Int32)), .val (.ref b108), .val (.int (own_max (own_s1 p3) (own_s2 p3))), .val (.long (own_U (p1.toInt64) (own_s1 p3) (p2.toInt64) (own_s2 p3))), .second, .val (.long (own_U (p1.toInt64) (own_s1 p3) (p2.toInt64) (own_s2 p3))), .second, .val (.int (own_max (own_s1 p3) (own_s2 p3))), .val (.int (p4 &&& (3 : Int32))), .val (.long (own_pw ((own_max (own_s1 p3) (own_s2 p3)) - (p4 &&& (3 : Int32))))), .second, .val (.long ((own_U (p1.toInt64) (own_s1 p3) (p2.toInt64) (own_s2 p3)) / (own_pw ((own_max (own_s1 p3) (own_s2 p3)) - (p4 &&& (3 : Int32)))))), .second, .val (.long (own_rm (own_U (p1.toInt64) (own_s1 p3) (p2.toInt64) (own_s2 p3)) (own_pw ((own_max (own_s1 p3) (own_s2 p3)) - (p4 &&& (3 : Int32)))))), .second] [(.int (lcmpW (own_rm (own_U (p1.toInt64) (own_s1 p3) (p2.toInt64) (own_s2 p3)) (own_pw ((own_max (own_s1 p3) (own_s2 p3)) - (p4 &&& (3 : Int32))))) (0 : Int64)))])) target → Steps p.tables e below (s₁.setTop (mkF m 0 #[.val (.int p1), .val (.int p2), .val (.int p3), .val (.int p4), .unset, .unset, .unset, .unset, .unset, .unset, .unset, .unset, .unset, .unset, .unset, .unset, .unset, .unset, .unset, .unset, .unset, .unset, .unset, .unset, .unset, .unset, .unset, .unset, .unset] [])) target := by
        intro target kt
        refine pk123 _ ?_
        show Steps p.tables e below (T119.setTop (mkF m 196 #[.val (.int p1), .val (.int p2), .val (.int p3), .val (.int p4), .val (.int (own_s1 p3)), .val (.int (own_s2 p3)), .val (.ref b2), .val (.ref b3), .val (.ref b5), .val (.ref b7), .val (.ref b14), .val (.ref b25), .val (.int (1 : Int32)), .val (.ref b3), .val (.int (1 : Int32)), .val (.ref b108), .val (.int (own_max (own_s1 p3) (own_s2 p3))), .val (.long (own_U (p1.toInt64) (own_s1 p3) (p2.toInt64) (own_s2 p3))), .second, .val (.long (own_U (p1.toInt64) (own_s1 p3) (p2.toInt64) (own_s2 p3))), .second, .val (.int (own_max (own_s1 p3) (own_s2 p3))), .unset, .unset, .unset, .unset, .unset, .unset, .unset] [(.int (p4 &&& (3 : Int32))), (.int (own_max (own_s1 p3) (own_s2 p3)))])) _
        refine XS.icmpNo X119.here hx rfl (hb hby at_196) rfl (tlt (hq1 : (p4 &&& (3 : Int32)) < (own_max (own_s1 p3) (own_s2 p3)))).2.2.2 ?_
        refine XS.aload X119.here hx rfl (hb hby at_199) rfl rfl ?_
        refine st124.trans ?_
        refine XS.istore X124.here hx rfl (hb hby at_204) rfl (l' := #[.val (.int p1), .val (.int p2), .val (.int p3), .val (.int p4), .val (.int (own_s1 p3)), .val (.int (own_s2 p3)), .val (.ref b2), .val (.ref b3), .val (.ref b5), .val (.ref b7), .val (.ref b14), .val (.ref b25), .val (.int (1 : Int32)), .val (.ref b3), .val (.int (1 : Int32)), .val (.ref b108), .val (.int (own_max (own_s1 p3) (own_s2 p3))), .val (.long (own_U (p1.toInt64) (own_s1 p3) (p2.toInt64) (own_s2 p3))), .second, .val (.long (own_U (p1.toInt64) (own_s1 p3) (p2.toInt64) (own_s2 p3))), .second, .val (.int (own_max (own_s1 p3) (own_s2 p3))), .val (.int (p4 &&& (3 : Int32))), .unset, .unset, .unset, .unset, .unset, .unset]) rfl ?_
        refine XS.iload X124.here hx rfl (hb hby at_206) rfl ?_
        refine XS.iload X124.here hx rfl (hb hby at_208) rfl ?_
        refine XS.isub X124.here hx rfl (hb hby at_210) rfl ?_
        refine st125 _ ?_
        refine XS.lstore X125.here hx rfl (hb hby at_214) rfl (l' := #[.val (.int p1), .val (.int p2), .val (.int p3), .val (.int p4), .val (.int (own_s1 p3)), .val (.int (own_s2 p3)), .val (.ref b2), .val (.ref b3), .val (.ref b5), .val (.ref b7), .val (.ref b14), .val (.ref b25), .val (.int (1 : Int32)), .val (.ref b3), .val (.int (1 : Int32)), .val (.ref b108), .val (.int (own_max (own_s1 p3) (own_s2 p3))), .val (.long (own_U (p1.toInt64) (own_s1 p3) (p2.toInt64) (own_s2 p3))), .second, .val (.long (own_U (p1.toInt64) (own_s1 p3) (p2.toInt64) (own_s2 p3))), .second, .val (.int (own_max (own_s1 p3) (own_s2 p3))), .val (.int (p4 &&& (3 : Int32))), .val (.long (own_pw ((own_max (own_s1 p3) (own_s2 p3)) - (p4 &&& (3 : Int32))))), .second, .unset, .unset, .unset, .unset]) rfl ?_
        refine XS.lload X125.here hx rfl (hb hby at_216) rfl ?_
        refine XS.lload X125.here hx rfl (hb hby at_218) rfl ?_
        refine XS.ldiv X125.here hx rfl (hb hby at_220) rfl hD.nz ?_
        refine XS.lstore X125.here hx rfl (hb hby at_221) rfl (l' := #[.val (.int p1), .val (.int p2), .val (.int p3), .val (.int p4), .val (.int (own_s1 p3)), .val (.int (own_s2 p3)), .val (.ref b2), .val (.ref b3), .val (.ref b5), .val (.ref b7), .val (.ref b14), .val (.ref b25), .val (.int (1 : Int32)), .val (.ref b3), .val (.int (1 : Int32)), .val (.ref b108), .val (.int (own_max (own_s1 p3) (own_s2 p3))), .val (.long (own_U (p1.toInt64) (own_s1 p3) (p2.toInt64) (own_s2 p3))), .second, .val (.long (own_U (p1.toInt64) (own_s1 p3) (p2.toInt64) (own_s2 p3))), .second, .val (.int (own_max (own_s1 p3) (own_s2 p3))), .val (.int (p4 &&& (3 : Int32))), .val (.long (own_pw ((own_max (own_s1 p3) (own_s2 p3)) - (p4 &&& (3 : Int32))))), .second, .val (.long ((own_U (p1.toInt64) (own_s1 p3) (p2.toInt64) (own_s2 p3)) / (own_pw ((own_max (own_s1 p3) (own_s2 p3)) - (p4 &&& (3 : Int32)))))), .second, .unset, .unset]) rfl ?_
        refine XS.lload X125.here hx rfl (hb hby at_223) rfl ?_
        refine XS.lload X125.here hx rfl (hb hby at_225) rfl ?_
        refine XS.lrem X125.here hx rfl (hb hby at_227) rfl hD.nz ?_
        refine XS.lstore X125.here hx rfl (hb hby at_228) rfl (l' := #[.val (.int p1), .val (.int p2), .val (.int p3), .val (.int p4), .val (.int (own_s1 p3)), .val (.int (own_s2 p3)), .val (.ref b2), .val (.ref b3), .val (.ref b5), .val (.ref b7), .val (.ref b14), .val (.ref b25), .val (.int (1 : Int32)), .val (.ref b3), .val (.int (1 : Int32)), .val (.ref b108), .val (.int (own_max (own_s1 p3) (own_s2 p3))), .val (.long (own_U (p1.toInt64) (own_s1 p3) (p2.toInt64) (own_s2 p3))), .second, .val (.long (own_U (p1.toInt64) (own_s1 p3) (p2.toInt64) (own_s2 p3))), .second, .val (.int (own_max (own_s1 p3) (own_s2 p3))), .val (.int (p4 &&& (3 : Int32))), .val (.long (own_pw ((own_max (own_s1 p3) (own_s2 p3)) - (p4 &&& (3 : Int32))))), .second, .val (.long ((own_U (p1.toInt64) (own_s1 p3) (p2.toInt64) (own_s2 p3)) / (own_pw ((own_max (own_s1 p3) (own_s2 p3)) - (p4 &&& (3 : Int32)))))), .second, .val (.long (own_rm (own_U (p1.toInt64) (own_s1 p3) (p2.toInt64) (own_s2 p3)) (own_pw ((own_max (own_s1 p3) (own_s2 p3)) - (p4 &&& (3 : Int32)))))), .second]) rfl ?_
        refine XS.lload X125.here hx rfl (hb hby at_230) rfl ?_
        refine XS.lconst X125.here hx rfl (hb hby at_232) ?_
        refine XS.lcmp X125.here hx rfl (hb hby at_233) rfl ?_
        exact kt
      by_cases hq2 : (lcmpW (own_rm (own_U (p1.toInt64) (own_s1 p3) (p2.toInt64) (own_s2 p3)) (own_pw ((own_max (own_s1 p3) (own_s2 p3)) - (p4 &&& (3 : Int32))))) (0 : Int64)) = (0 : Int32)
      · obtain ⟨_, _, ⟨T128, L128, k128, n128⟩, -, X128, ⟨Lc128, hQ128, l128, y128, z128⟩, st128⟩ := Jvm.LawKit.callS X125 hx (y := m_0) hown (mvT hZ (own_w hw 7 rfl)) (mvT hZ (own_w hw 8 rfl)) (mvT hZ (own_w hw 9 rfl)) (mvT hZ (own_w hw 10 rfl)) (by decide) (backOf (W := 1) (rmV2 l Z a0 hw [] (own_U (p1.toInt64) (own_s1 p3) (p2.toInt64) (own_s2 p3)) (own_max (own_s1 p3) (own_s2 p3))  T125.heap n0 Z126 J (((((((((((((O0.keep K3 all0).keep K5 all0).ext E7).keep K12 (allS g_b7 all0)).ext E14).keep K23 (allS g_b14 all0)).keep K26 all0).keep K35 (allS g_b14 all0)).keep K38 all0).keep K108 (allS g_b14 all0)).keep K112 all0).keep K114 all0).keep K125 all0) (own_hm hU) (own_16 hM)) hZ (own_w hw 10 rfl) (own_w hw 9 rfl) (by decide) (by decide)) (g := (mkF m 285 #[.val (.int p1), .val (.int p2), .val (.int p3), .val (.int p4), .val (.int (own_s1 p3)), .val (.int (own_s2 p3)), .val (.ref b2), .val (.ref b3), .val (.ref b5), .val (.ref b7), .val (.ref b14), .val (.ref b25), .val (.int (1 : Int32)), .val (.ref b3), .val (.int (1 : Int32)), .val (.ref b108), .val (.int (own_max (own_s1 p3) (own_s2 p3))), .val (.long (own_U (p1.toInt64) (own_s1 p3) (p2.toInt64) (own_s2 p3))), .second, .val (.long (own_U (p1.toInt64) (own_s1 p3) (p2.toInt64) (own_s2 p3))), .second, .val (.int (own_max (own_s1 p3) (own_s2 p3))), .val (.int (p4 &&& (3 : Int32))), .val (.long (own_pw ((own_max (own_s1 p3) (own_s2 p3)) - (p4 &&& (3 : Int32))))), .second, .val (.long ((own_U (p1.toInt64) (own_s1 p3) (p2.toInt64) (own_s2 p3)) / (own_pw ((own_max (own_s1 p3) (own_s2 p3)) - (p4 &&& (3 : Int32)))))), .second, .val (.long (own_rm (own_U (p1.toInt64) (own_s1 p3) (p2.toInt64) (own_s2 p3)) (own_pw ((own_max (own_s1 p3) (own_s2 p3)) - (p4 &&& (3 : Int32)))))), .second] [(.int (own_max (own_s1 p3) (own_s2 p3))), (.long (own_U (p1.toInt64) (own_s1 p3) (p2.toInt64) (own_s2 p3))), (.ref b108)])) rfl (by rw [hml]; rfl) (argsL := [(.long (own_U (p1.toInt64) (own_s1 p3) (p2.toInt64) (own_s2 p3))), (.int (own_max (own_s1 p3) (own_s2 p3)))]) (rest := [(.ref b108)]) (lenOf pd_10 rfl) rfl (by show 2 * 0 + _ ≤ _; exact Nat.le_of_eq rfl) (hb hby at_285) (fun _ _ => ⟨rfl, rfl, (by decide : 11 + 1 ≤ _), (by decide : 57 + 5 ≤ _)⟩)
        dsimp only [Pt.U, Pt.locs, Pt.cells, Pt.slots] at X128 l128 y128 z128 st128 hQ128
        subst y128 z128
        obtain ⟨b128, rfl, N128q, K128, q128, B128, P128⟩ := hQ128
        have N128 : Fr n0 L128 := by rw [l128]; exact Fr.app N125 N128q
        have Z129 : n0 ≤ T128.heap.size := Nat.le_trans Z126 K128.1
        have f130 := B108.1.keep K112
        have f131 := f130.keep K114
        have f132 := f131.keep K125
        have f133 := f132.keep K128
        have f134 := B108.2.1.keep K112 nin0
        have f135 := f134.keep K114 nin0
        have f136 := f135.keep K125 nin0
        have f137 := f136.keep K128 nin0
        have f138 := B108.2.2.keep K112 nin0
        have f139 := f138.keep K114 nin0
        have f140 := f139.keep K125 nin0
        have f141 := f140.keep K128 nin0
        have Bq : own_BD Z T128.heap b108 (own_max (own_s1 p3) (own_s2 p3)) (own_U (p1.toInt64) (own_s1 p3) (p2.toInt64) (own_s2 p3)) := by have u := (⟨f133, f137, f141⟩ : own_BD Z _ _ _ _); rw [own_os, own_oz, own_cs, own_cz, if_pos hq1, if_pos hq1, if_pos ((lw_eq _ _).mp hq2), if_pos ((lw_eq _ _).mp hq2)] at u; exact u
        obtain ⟨cq142, kq142, q142a, q142b, q142c⟩ := isOf hZ rfl f133
        obtain ⟨_, _, ⟨T142, L142, k142, n142⟩, -, X142, ⟨Lc142, hQ142, l142, y142, z142⟩, st142⟩ := X128.virtualBack hx (y := m_1) (z := m_1) hown (mvT hZ (own_w hw 69 rfl)) (mvT hZ (own_w hw 70 rfl)) (notFace_of_selects (args := #[]) (mvT hZ (own_w hw 72 rfl))) (mvT hZ (own_w hw 72 rfl)) (mvT hZ (own_w hw 71 rfl)) (by decide) (backOf (W := 0) (rmEq l Z a0 hw [] b108 b128 (own_max (own_s1 p3) (own_s2 p3)) (own_U (p1.toInt64) (own_s1 p3) (p2.toInt64) (own_s2 p3)) T128.heap n0 Z129 Bq ⟨B128.1, B128.2.1, B128.2.2⟩ (own_hm hU)) hZ (own_w hw 73 rfl) (own_w hw 9 rfl) (by decide) (by decide)) q142a q142c (g := (mkF m 288 #[.val (.int p1), .val (.int p2), .val (.int p3), .val (.int p4), .val (.int (own_s1 p3)), .val (.int (own_s2 p3)), .val (.ref b2), .val (.ref b3), .val (.ref b5), .val (.ref b7), .val (.ref b14), .val (.ref b25), .val (.int (1 : Int32)), .val (.ref b3), .val (.int (1 : Int32)), .val (.ref b108), .val (.int (own_max (own_s1 p3) (own_s2 p3))), .val (.long (own_U (p1.toInt64) (own_s1 p3) (p2.toInt64) (own_s2 p3))), .second, .val (.long (own_U (p1.toInt64) (own_s1 p3) (p2.toInt64) (own_s2 p3))), .second, .val (.int (own_max (own_s1 p3) (own_s2 p3))), .val (.int (p4 &&& (3 : Int32))), .val (.long (own_pw ((own_max (own_s1 p3) (own_s2 p3)) - (p4 &&& (3 : Int32))))), .second, .val (.long ((own_U (p1.toInt64) (own_s1 p3) (p2.toInt64) (own_s2 p3)) / (own_pw ((own_max (own_s1 p3) (own_s2 p3)) - (p4 &&& (3 : Int32)))))), .second, .val (.long (own_rm (own_U (p1.toInt64) (own_s1 p3) (p2.toInt64) (own_s2 p3)) (own_pw ((own_max (own_s1 p3) (own_s2 p3)) - (p4 &&& (3 : Int32)))))), .second] [(.ref b128), (.ref b108)])) rfl (by rw [hml]; rfl) (Steps.refl _) (argsL := [(.ref b128)]) (rest := []) (lenOf pd_28 rfl) rfl (by show 2 * 0 + _ ≤ _; exact Nat.le_of_eq rfl) (hb hby at_288) (fun _ _ => ⟨rfl, rfl, (by decide : 12 + 0 ≤ _), (by decide : 62 + 0 ≤ _)⟩)
        dsimp only [Pt.U, Pt.locs, Pt.cells, Pt.slots] at X142 l142 y142 z142 st142 hQ142
        subst y142 z142
        obtain ⟨rfl, N142q, e142⟩ := hQ142
        have N142 : Fr n0 L142 := by rw [l142]; exact Fr.app N128 N142q
        obtain ⟨fs, hr, hrun, hended, hW, hsame⟩ := X142.leave (v := some (.int (1 : Int32))) (fun h => by rw [Bd.returns] at h; cases h) Bd.notSynchronized
        refine ⟨_, _, pre0 _ ?_, hrun, hended, _, _, rfl, ?_, ⟨_, rfl⟩, hW, hsame.mono (by decide) (by decide)⟩
        · refine pk127 _ ?_
          show Steps p.tables e below (T125.setTop (mkF m 234 #[.val (.int p1), .val (.int p2), .val (.int p3), .val (.int p4), .val (.int (own_s1 p3)), .val (.int (own_s2 p3)), .val (.ref b2), .val (.ref b3), .val (.ref b5), .val (.ref b7), .val (.ref b14), .val (.ref b25), .val (.int (1 : Int32)), .val (.ref b3), .val (.int (1 : Int32)), .val (.ref b108), .val (.int (own_max (own_s1 p3) (own_s2 p3))), .val (.long (own_U (p1.toInt64) (own_s1 p3) (p2.toInt64) (own_s2 p3))), .second, .val (.long (own_U (p1.toInt64) (own_s1 p3) (p2.toInt64) (own_s2 p3))), .second, .val (.int (own_max (own_s1 p3) (own_s2 p3))), .val (.int (p4 &&& (3 : Int32))), .val (.long (own_pw ((own_max (own_s1 p3) (own_s2 p3)) - (p4 &&& (3 : Int32))))), .second, .val (.long ((own_U (p1.toInt64) (own_s1 p3) (p2.toInt64) (own_s2 p3)) / (own_pw ((own_max (own_s1 p3) (own_s2 p3)) - (p4 &&& (3 : Int32)))))), .second, .val (.long (own_rm (own_U (p1.toInt64) (own_s1 p3) (p2.toInt64) (own_s2 p3)) (own_pw ((own_max (own_s1 p3) (own_s2 p3)) - (p4 &&& (3 : Int32)))))), .second] [(.int (lcmpW (own_rm (own_U (p1.toInt64) (own_s1 p3) (p2.toInt64) (own_s2 p3)) (own_pw ((own_max (own_s1 p3) (own_s2 p3)) - (p4 &&& (3 : Int32))))) (0 : Int64)))])) _
          refine XS.ifYes X125.here hx rfl (pc0 := 234) (pc' := 279) rfl (hb hby at_234) rfl ((if0 _ _).trans (teq (hq2 : (lcmpW (own_rm (own_U (p1.toInt64) (own_s1 p3) (p2.toInt64) (own_s2 p3)) (own_pw ((own_max (own_s1 p3) (own_s2 p3)) - (p4 &&& (3 : Int32))))) (0 : Int64)) = (0 : Int32))).1) (by decide) (by decide) ?_
          refine XS.aload X125.here hx rfl (hb hby at_279) rfl rfl ?_
          refine XS.lload X125.here hx rfl (hb hby at_281) rfl ?_
          refine XS.iload X125.here hx rfl (hb hby at_283) rfl ?_
          refine st128 _ ?_
          refine st142.trans ?_
          refine XS.istore X142.here hx rfl (hb hby at_291) rfl (l' := #[.val (.int p1), .val (.int p2), .val (.int p3), .val (.int p4), .val (.int (own_s1 p3)), .val (.int (own_s2 p3)), .val (.ref b2), .val (.ref b3), .val (.ref b5), .val (.ref b7), .val (.ref b14), .val (.ref b25), .val (.int (1 : Int32)), .val (.ref b3), .val (.int (1 : Int32)), .val (.ref b108), .val (.int (own_max (own_s1 p3) (own_s2 p3))), .val (.long (own_U (p1.toInt64) (own_s1 p3) (p2.toInt64) (own_s2 p3))), .second, .val (.long (own_U (p1.toInt64) (own_s1 p3) (p2.toInt64) (own_s2 p3))), .second, .val (.int (own_max (own_s1 p3) (own_s2 p3))), .val (.int (1 : Int32)), .val (.long (own_pw ((own_max (own_s1 p3) (own_s2 p3)) - (p4 &&& (3 : Int32))))), .second, .val (.long ((own_U (p1.toInt64) (own_s1 p3) (p2.toInt64) (own_s2 p3)) / (own_pw ((own_max (own_s1 p3) (own_s2 p3)) - (p4 &&& (3 : Int32)))))), .second, .val (.long (own_rm (own_U (p1.toInt64) (own_s1 p3) (p2.toInt64) (own_s2 p3)) (own_pw ((own_max (own_s1 p3) (own_s2 p3)) - (p4 &&& (3 : Int32)))))), .second]) rfl ?_
          refine XS.iload X142.here hx rfl (hb hby at_293) rfl ?_
          refine XS.ifNo X142.here hx rfl (hb hby at_295) rfl ((if0 _ _).trans (feq (by decide : ¬ ((1 : Int32) = (0 : Int32)))).1) ?_
          refine XS.iload X142.here hx rfl (hb hby at_298) rfl ?_
          refine XS.ifNo X142.here hx rfl (hb hby at_300) rfl ((if0 _ _).trans (feq (by decide : ¬ ((1 : Int32) = (0 : Int32)))).1) ?_
          refine XS.iload X142.here hx rfl (hb hby at_303) rfl ?_
          refine XS.ifNo X142.here hx rfl (hb hby at_305) rfl ((if0 _ _).trans (feq (by decide : ¬ ((1 : Int32) = (0 : Int32)))).1) ?_
          refine XS.iconst X142.here hx rfl (hb hby at_308) ?_
          refine XS.goto X142.here hx rfl (pc0 := 309) (pc' := 313) rfl (hb hby at_309) (by decide) (by decide) ?_
          show Steps p.tables e below (T142.setTop (mkF m 313 #[.val (.int p1), .val (.int p2), .val (.int p3), .val (.int p4), .val (.int (own_s1 p3)), .val (.int (own_s2 p3)), .val (.ref b2), .val (.ref b3), .val (.ref b5), .val (.ref b7), .val (.ref b14), .val (.ref b25), .val (.int (1 : Int32)), .val (.ref b3), .val (.int (1 : Int32)), .val (.ref b108), .val (.int (own_max (own_s1 p3) (own_s2 p3))), .val (.long (own_U (p1.toInt64) (own_s1 p3) (p2.toInt64) (own_s2 p3))), .second, .val (.long (own_U (p1.toInt64) (own_s1 p3) (p2.toInt64) (own_s2 p3))), .second, .val (.int (own_max (own_s1 p3) (own_s2 p3))), .val (.int (1 : Int32)), .val (.long (own_pw ((own_max (own_s1 p3) (own_s2 p3)) - (p4 &&& (3 : Int32))))), .second, .val (.long ((own_U (p1.toInt64) (own_s1 p3) (p2.toInt64) (own_s2 p3)) / (own_pw ((own_max (own_s1 p3) (own_s2 p3)) - (p4 &&& (3 : Int32)))))), .second, .val (.long (own_rm (own_U (p1.toInt64) (own_s1 p3) (p2.toInt64) (own_s2 p3)) (own_pw ((own_max (own_s1 p3) (own_s2 p3)) - (p4 &&& (3 : Int32)))))), .second] [(.int (1 : Int32))])) _
          exact retN X142 hx (t := .boolean) Bd.returns (by simp) (hb hby at_313) hr
        · show Qrm0 Z p1 p2 p3 p4  h0 n0 _ T142.heap _
          rw [e142]
          exact ⟨rfl, N142⟩
      · obtain ⟨_, _, ⟨T128, L128, k128, n128⟩, -, X128, ⟨Lc128, hQ128, l128, y128, z128⟩, st128⟩ := Jvm.LawKit.callS X125 hx (y := m_15) hown (mvT hZ (own_w hw 222 rfl)) (mvT hZ (own_w hw 101 rfl)) (mvT hZ (own_w hw 102 rfl)) (mvT hZ (own_w hw 103 rfl)) (by decide) (backOf (W := 0) (rmAbs l Z a0 hw [] (own_rm (own_U (p1.toInt64) (own_s1 p3) (p2.toInt64) (own_s2 p3)) (own_pw ((own_max (own_s1 p3) (own_s2 p3)) - (p4 &&& (3 : Int32)))))  T125.heap n0 Z126 ) hZ (own_w hw 103 rfl) (own_w hw 102 rfl) (by decide) (by decide)) (g := (mkF m 239 #[.val (.int p1), .val (.int p2), .val (.int p3), .val (.int p4), .val (.int (own_s1 p3)), .val (.int (own_s2 p3)), .val (.ref b2), .val (.ref b3), .val (.ref b5), .val (.ref b7), .val (.ref b14), .val (.ref b25), .val (.int (1 : Int32)), .val (.ref b3), .val (.int (1 : Int32)), .val (.ref b108), .val (.int (own_max (own_s1 p3) (own_s2 p3))), .val (.long (own_U (p1.toInt64) (own_s1 p3) (p2.toInt64) (own_s2 p3))), .second, .val (.long (own_U (p1.toInt64) (own_s1 p3) (p2.toInt64) (own_s2 p3))), .second, .val (.int (own_max (own_s1 p3) (own_s2 p3))), .val (.int (p4 &&& (3 : Int32))), .val (.long (own_pw ((own_max (own_s1 p3) (own_s2 p3)) - (p4 &&& (3 : Int32))))), .second, .val (.long ((own_U (p1.toInt64) (own_s1 p3) (p2.toInt64) (own_s2 p3)) / (own_pw ((own_max (own_s1 p3) (own_s2 p3)) - (p4 &&& (3 : Int32)))))), .second, .val (.long (own_rm (own_U (p1.toInt64) (own_s1 p3) (p2.toInt64) (own_s2 p3)) (own_pw ((own_max (own_s1 p3) (own_s2 p3)) - (p4 &&& (3 : Int32)))))), .second] [(.long (own_rm (own_U (p1.toInt64) (own_s1 p3) (p2.toInt64) (own_s2 p3)) (own_pw ((own_max (own_s1 p3) (own_s2 p3)) - (p4 &&& (3 : Int32))))))])) rfl (by rw [hml]; rfl) (argsL := [(.long (own_rm (own_U (p1.toInt64) (own_s1 p3) (p2.toInt64) (own_s2 p3)) (own_pw ((own_max (own_s1 p3) (own_s2 p3)) - (p4 &&& (3 : Int32))))))]) (rest := []) (lenOf pd_1 rfl) rfl (by show 2 * 0 + _ ≤ _; exact Nat.le_of_eq rfl) (hb hby at_239) (fun _ _ => ⟨rfl, rfl, (by decide : 11 + 0 ≤ _), (by decide : 57 + 0 ≤ _)⟩)
        dsimp only [Pt.U, Pt.locs, Pt.cells, Pt.slots] at X128 l128 y128 z128 st128 hQ128
        subst y128 z128
        obtain ⟨rfl, N128q, e128⟩ := hQ128
        have N128 : Fr n0 L128 := by rw [l128]; exact Fr.app N125 N128q
        have pk129 : ∀ target, Steps p.tables e below (T128.setTop (mkF m 249 #[.val (.int p1), .val (.int p2), .val (.int p3), .val (.int p4), .val (.int (own_s1 p3)), .val (.int (own_s2 p3)), .val (.ref b2), .val (.ref b3), .val (.ref b5), .val (.ref b7), .val (.ref b14), .val (.ref b25), .val (.int (1 : Int32)), .val (.ref b3), .val (.int (1 : Int32)), .val (.ref b108), .val (.int (own_max (own_s1 p3) (own_s2 p3))), .val (.long (own_U (p1.toInt64) (own_s1 p3) (p2.toInt64) (own_s2 p3))), .second, .val (.long (own_U (p1.toInt64) (own_s1 p3) (p2.toInt64) (own_s2 p3))), .second, .val (.int (own_max (own_s1 p3) (own_s2 p3))), .val (.int (p4 &&& (3 : Int32))), .val (.long (own_pw ((own_max (own_s1 p3) (own_s2 p3)) - (p4 &&& (3 : Int32))))), .second, .val (.long ((own_U (p1.toInt64) (own_s1 p3) (p2.toInt64) (own_s2 p3)) / (own_pw ((own_max (own_s1 p3) (own_s2 p3)) - (p4 &&& (3 : Int32)))))), .second, .val (.long (own_rm (own_U (p1.toInt64) (own_s1 p3) (p2.toInt64) (own_s2 p3)) (own_pw ((own_max (own_s1 p3) (own_s2 p3)) - (p4 &&& (3 : Int32)))))), .second] [(.int (lcmpW ((own_abs (own_rm (own_U (p1.toInt64) (own_s1 p3) (p2.toInt64) (own_s2 p3)) (own_pw ((own_max (own_s1 p3) (own_s2 p3)) - (p4 &&& (3 : Int32)))))) * (2 : Int64)) (own_pw ((own_max (own_s1 p3) (own_s2 p3)) - (p4 &&& (3 : Int32))))))])) target → Steps p.tables e below (s₁.setTop (mkF m 0 #[.val (.int p1), .val (.int p2), .val (.int p3), .val (.int p4), .unset, .unset, .unset, .unset, .unset, .unset, .unset, .unset, .unset, .unset, .unset, .unset, .unset, .unset, .unset, .unset, .unset, .unset, .unset, .unset, .unset, .unset, .unset, .unset, .unset] [])) target := by
          intro target kt
          refine pk127 _ ?_
          show Steps p.tables e below (T125.setTop (mkF m 234 #[.val (.int p1), .val (.int p2), .val (.int p3), .val (.int p4), .val (.int (own_s1 p3)), .val (.int (own_s2 p3)), .val (.ref b2), .val (.ref b3), .val (.ref b5), .val (.ref b7), .val (.ref b14), .val (.ref b25), .val (.int (1 : Int32)), .val (.ref b3), .val (.int (1 : Int32)), .val (.ref b108), .val (.int (own_max (own_s1 p3) (own_s2 p3))), .val (.long (own_U (p1.toInt64) (own_s1 p3) (p2.toInt64) (own_s2 p3))), .second, .val (.long (own_U (p1.toInt64) (own_s1 p3) (p2.toInt64) (own_s2 p3))), .second, .val (.int (own_max (own_s1 p3) (own_s2 p3))), .val (.int (p4 &&& (3 : Int32))), .val (.long (own_pw ((own_max (own_s1 p3) (own_s2 p3)) - (p4 &&& (3 : Int32))))), .second, .val (.long ((own_U (p1.toInt64) (own_s1 p3) (p2.toInt64) (own_s2 p3)) / (own_pw ((own_max (own_s1 p3) (own_s2 p3)) - (p4 &&& (3 : Int32)))))), .second, .val (.long (own_rm (own_U (p1.toInt64) (own_s1 p3) (p2.toInt64) (own_s2 p3)) (own_pw ((own_max (own_s1 p3) (own_s2 p3)) - (p4 &&& (3 : Int32)))))), .second] [(.int (lcmpW (own_rm (own_U (p1.toInt64) (own_s1 p3) (p2.toInt64) (own_s2 p3)) (own_pw ((own_max (own_s1 p3) (own_s2 p3)) - (p4 &&& (3 : Int32))))) (0 : Int64)))])) _
          refine XS.ifNo X125.here hx rfl (hb hby at_234) rfl ((if0 _ _).trans (feq (hq2 : ¬ ((lcmpW (own_rm (own_U (p1.toInt64) (own_s1 p3) (p2.toInt64) (own_s2 p3)) (own_pw ((own_max (own_s1 p3) (own_s2 p3)) - (p4 &&& (3 : Int32))))) (0 : Int64)) = (0 : Int32)))).1) ?_
          refine XS.lload X125.here hx rfl (hb hby at_237) rfl ?_
          refine st128 _ ?_
          refine X128.ldc2Long hx hown (mvT hZ (own_w hw 223 rfl)) (g := (mkF m 242 #[.val (.int p1), .val (.int p2), .val (.int p3), .val (.int p4), .val (.int (own_s1 p3)), .val (.int (own_s2 p3)), .val (.ref b2), .val (.ref b3), .val (.ref b5), .val (.ref b7), .val (.ref b14), .val (.ref b25), .val (.int (1 : Int32)), .val (.ref b3), .val (.int (1 : Int32)), .val (.ref b108), .val (.int (own_max (own_s1 p3) (own_s2 p3))), .val (.long (own_U (p1.toInt64) (own_s1 p3) (p2.toInt64) (own_s2 p3))), .second, .val (.long (own_U (p1.toInt64) (own_s1 p3) (p2.toInt64) (own_s2 p3))), .second, .val (.int (own_max (own_s1 p3) (own_s2 p3))), .val (.int (p4 &&& (3 : Int32))), .val (.long (own_pw ((own_max (own_s1 p3) (own_s2 p3)) - (p4 &&& (3 : Int32))))), .second, .val (.long ((own_U (p1.toInt64) (own_s1 p3) (p2.toInt64) (own_s2 p3)) / (own_pw ((own_max (own_s1 p3) (own_s2 p3)) - (p4 &&& (3 : Int32)))))), .second, .val (.long (own_rm (own_U (p1.toInt64) (own_s1 p3) (p2.toInt64) (own_s2 p3)) (own_pw ((own_max (own_s1 p3) (own_s2 p3)) - (p4 &&& (3 : Int32)))))), .second] [(.long (own_abs (own_rm (own_U (p1.toInt64) (own_s1 p3) (p2.toInt64) (own_s2 p3)) (own_pw ((own_max (own_s1 p3) (own_s2 p3)) - (p4 &&& (3 : Int32)))))))])) rfl (hb hby at_242) _ ?_
          refine XS.lmul X128.here hx rfl (hb hby at_245) rfl ?_
          refine XS.lload X128.here hx rfl (hb hby at_246) rfl ?_
          refine XS.lcmp X128.here hx rfl (hb hby at_248) rfl ?_
          exact kt
        by_cases hq3 : (lcmpW ((own_abs (own_rm (own_U (p1.toInt64) (own_s1 p3) (p2.toInt64) (own_s2 p3)) (own_pw ((own_max (own_s1 p3) (own_s2 p3)) - (p4 &&& (3 : Int32)))))) * (2 : Int64)) (own_pw ((own_max (own_s1 p3) (own_s2 p3)) - (p4 &&& (3 : Int32))))) < (0 : Int32)
        · obtain ⟨_, _, ⟨T130, L130, k130, n130⟩, -, X130, ⟨Lc130, hQ130, l130, y130, z130⟩, st130⟩ := Jvm.LawKit.callS X128 hx (y := m_0) hown (mvT hZ (own_w hw 7 rfl)) (mvT hZ (own_w hw 8 rfl)) (mvT hZ (own_w hw 9 rfl)) (mvT hZ (own_w hw 10 rfl)) (by decide) (backOf (W := 1) (rmV2 l Z a0 hw [] ((own_U (p1.toInt64) (own_s1 p3) (p2.toInt64) (own_s2 p3)) / (own_pw ((own_max (own_s1 p3) (own_s2 p3)) - (p4 &&& (3 : Int32))))) (p4 &&& (3 : Int32))  T125.heap n0 Z126 J (((((((((((((O0.keep K3 all0).keep K5 all0).ext E7).keep K12 (allS g_b7 all0)).ext E14).keep K23 (allS g_b14 all0)).keep K26 all0).keep K35 (allS g_b14 all0)).keep K38 all0).keep K108 (allS g_b14 all0)).keep K112 all0).keep K114 all0).keep K125 all0) (own_hm hQ1) (own_16 hp8)) hZ (own_w hw 10 rfl) (own_w hw 9 rfl) (by decide) (by decide)) (g := (mkF m 285 #[.val (.int p1), .val (.int p2), .val (.int p3), .val (.int p4), .val (.int (own_s1 p3)), .val (.int (own_s2 p3)), .val (.ref b2), .val (.ref b3), .val (.ref b5), .val (.ref b7), .val (.ref b14), .val (.ref b25), .val (.int (1 : Int32)), .val (.ref b3), .val (.int (1 : Int32)), .val (.ref b108), .val (.int (own_max (own_s1 p3) (own_s2 p3))), .val (.long (own_U (p1.toInt64) (own_s1 p3) (p2.toInt64) (own_s2 p3))), .second, .val (.long ((own_U (p1.toInt64) (own_s1 p3) (p2.toInt64) (own_s2 p3)) / (own_pw ((own_max (own_s1 p3) (own_s2 p3)) - (p4 &&& (3 : Int32)))))), .second, .val (.int (p4 &&& (3 : Int32))), .val (.int (p4 &&& (3 : Int32))), .val (.long (own_pw ((own_max (own_s1 p3) (own_s2 p3)) - (p4 &&& (3 : Int32))))), .second, .val (.long ((own_U (p1.toInt64) (own_s1 p3) (p2.toInt64) (own_s2 p3)) / (own_pw ((own_max (own_s1 p3) (own_s2 p3)) - (p4 &&& (3 : Int32)))))), .second, .val (.long (own_rm (own_U (p1.toInt64) (own_s1 p3) (p2.toInt64) (own_s2 p3)) (own_pw ((own_max (own_s1 p3) (own_s2 p3)) - (p4 &&& (3 : Int32)))))), .second] [(.int (p4 &&& (3 : Int32))), (.long ((own_U (p1.toInt64) (own_s1 p3) (p2.toInt64) (own_s2 p3)) / (own_pw ((own_max (own_s1 p3) (own_s2 p3)) - (p4 &&& (3 : Int32)))))), (.ref b108)])) rfl (by rw [hml]; rfl) (argsL := [(.long ((own_U (p1.toInt64) (own_s1 p3) (p2.toInt64) (own_s2 p3)) / (own_pw ((own_max (own_s1 p3) (own_s2 p3)) - (p4 &&& (3 : Int32)))))), (.int (p4 &&& (3 : Int32)))]) (rest := [(.ref b108)]) (lenOf pd_10 rfl) rfl (by show 2 * 0 + _ ≤ _; exact Nat.le_of_eq rfl) (hb hby at_285) (fun _ _ => ⟨rfl, e128, (by decide : 11 + 1 ≤ _), (by decide : 57 + 5 ≤ _)⟩)
          dsimp only [Pt.U, Pt.locs, Pt.cells, Pt.slots] at X130 l130 y130 z130 st130 hQ130
          subst y130 z130
          obtain ⟨b130, rfl, N130q, K130, q130, B130, P130⟩ := hQ130
          have N130 : Fr n0 L130 := by rw [l130]; exact Fr.app N128 N130q
          have Z131 : n0 ≤ T130.heap.size := Nat.le_trans Z126 K130.1
          have f132 := B108.1.keep K112
          have f133 := f132.keep K114
          have f134 := f133.keep K125
          have f135 := f134.keep K130
          have f136 := B108.2.1.keep K112 nin0
          have f137 := f136.keep K114 nin0
          have f138 := f137.keep K125 nin0
          have f139 := f138.keep K130 nin0
          have f140 := B108.2.2.keep K112 nin0
          have f141 := f140.keep K114 nin0
          have f142 := f141.keep K125 nin0
          have f143 := f142.keep K130 nin0
          have Bq : own_BD Z T130.heap b108 (p4 &&& (3 : Int32)) ((own_U (p1.toInt64) (own_s1 p3) (p2.toInt64) (own_s2 p3)) / (own_pw ((own_max (own_s1 p3) (own_s2 p3)) - (p4 &&& (3 : Int32))))) := by have u := (⟨f135, f139, f143⟩ : own_BD Z _ _ _ _); rw [own_os, own_oz, own_cs, own_cz, if_pos hq1, if_pos hq1, if_neg (fun y => hq2 ((lw_eq _ _).mpr y)), if_neg (fun y => hq2 ((lw_eq _ _).mpr y)), own_dv, if_neg hq2, if_pos ((own_inc hD).mpr hq3)] at u; exact u
          obtain ⟨cq144, kq144, q144a, q144b, q144c⟩ := isOf hZ rfl f135
          obtain ⟨_, _, ⟨T144, L144, k144, n144⟩, -, X144, ⟨Lc144, hQ144, l144, y144, z144⟩, st144⟩ := X130.virtualBack hx (y := m_1) (z := m_1) hown (mvT hZ (own_w hw 69 rfl)) (mvT hZ (own_w hw 70 rfl)) (notFace_of_selects (args := #[]) (mvT hZ (own_w hw 72 rfl))) (mvT hZ (own_w hw 72 rfl)) (mvT hZ (own_w hw 71 rfl)) (by decide) (backOf (W := 0) (rmEq l Z a0 hw [] b108 b130 (p4 &&& (3 : Int32)) ((own_U (p1.toInt64) (own_s1 p3) (p2.toInt64) (own_s2 p3)) / (own_pw ((own_max (own_s1 p3) (own_s2 p3)) - (p4 &&& (3 : Int32))))) T130.heap n0 Z131 Bq ⟨B130.1, B130.2.1, B130.2.2⟩ (own_hm hQ1)) hZ (own_w hw 73 rfl) (own_w hw 9 rfl) (by decide) (by decide)) q144a q144c (g := (mkF m 288 #[.val (.int p1), .val (.int p2), .val (.int p3), .val (.int p4), .val (.int (own_s1 p3)), .val (.int (own_s2 p3)), .val (.ref b2), .val (.ref b3), .val (.ref b5), .val (.ref b7), .val (.ref b14), .val (.ref b25), .val (.int (1 : Int32)), .val (.ref b3), .val (.int (1 : Int32)), .val (.ref b108), .val (.int (own_max (own_s1 p3) (own_s2 p3))), .val (.long (own_U (p1.toInt64) (own_s1 p3) (p2.toInt64) (own_s2 p3))), .second, .val (.long ((own_U (p1.toInt64) (own_s1 p3) (p2.toInt64) (own_s2 p3)) / (own_pw ((own_max (own_s1 p3) (own_s2 p3)) - (p4 &&& (3 : Int32)))))), .second, .val (.int (p4 &&& (3 : Int32))), .val (.int (p4 &&& (3 : Int32))), .val (.long (own_pw ((own_max (own_s1 p3) (own_s2 p3)) - (p4 &&& (3 : Int32))))), .second, .val (.long ((own_U (p1.toInt64) (own_s1 p3) (p2.toInt64) (own_s2 p3)) / (own_pw ((own_max (own_s1 p3) (own_s2 p3)) - (p4 &&& (3 : Int32)))))), .second, .val (.long (own_rm (own_U (p1.toInt64) (own_s1 p3) (p2.toInt64) (own_s2 p3)) (own_pw ((own_max (own_s1 p3) (own_s2 p3)) - (p4 &&& (3 : Int32)))))), .second] [(.ref b130), (.ref b108)])) rfl (by rw [hml]; rfl) (Steps.refl _) (argsL := [(.ref b130)]) (rest := []) (lenOf pd_28 rfl) rfl (by show 2 * 0 + _ ≤ _; exact Nat.le_of_eq rfl) (hb hby at_288) (fun _ _ => ⟨rfl, rfl, (by decide : 12 + 0 ≤ _), (by decide : 62 + 0 ≤ _)⟩)
          dsimp only [Pt.U, Pt.locs, Pt.cells, Pt.slots] at X144 l144 y144 z144 st144 hQ144
          subst y144 z144
          obtain ⟨rfl, N144q, e144⟩ := hQ144
          have N144 : Fr n0 L144 := by rw [l144]; exact Fr.app N130 N144q
          obtain ⟨fs, hr, hrun, hended, hW, hsame⟩ := X144.leave (v := some (.int (1 : Int32))) (fun h => by rw [Bd.returns] at h; cases h) Bd.notSynchronized
          refine ⟨_, _, pre0 _ ?_, hrun, hended, _, _, rfl, ?_, ⟨_, rfl⟩, hW, hsame.mono (by decide) (by decide)⟩
          · refine pk129 _ ?_
            show Steps p.tables e below (T128.setTop (mkF m 249 #[.val (.int p1), .val (.int p2), .val (.int p3), .val (.int p4), .val (.int (own_s1 p3)), .val (.int (own_s2 p3)), .val (.ref b2), .val (.ref b3), .val (.ref b5), .val (.ref b7), .val (.ref b14), .val (.ref b25), .val (.int (1 : Int32)), .val (.ref b3), .val (.int (1 : Int32)), .val (.ref b108), .val (.int (own_max (own_s1 p3) (own_s2 p3))), .val (.long (own_U (p1.toInt64) (own_s1 p3) (p2.toInt64) (own_s2 p3))), .second, .val (.long (own_U (p1.toInt64) (own_s1 p3) (p2.toInt64) (own_s2 p3))), .second, .val (.int (own_max (own_s1 p3) (own_s2 p3))), .val (.int (p4 &&& (3 : Int32))), .val (.long (own_pw ((own_max (own_s1 p3) (own_s2 p3)) - (p4 &&& (3 : Int32))))), .second, .val (.long ((own_U (p1.toInt64) (own_s1 p3) (p2.toInt64) (own_s2 p3)) / (own_pw ((own_max (own_s1 p3) (own_s2 p3)) - (p4 &&& (3 : Int32)))))), .second, .val (.long (own_rm (own_U (p1.toInt64) (own_s1 p3) (p2.toInt64) (own_s2 p3)) (own_pw ((own_max (own_s1 p3) (own_s2 p3)) - (p4 &&& (3 : Int32)))))), .second] [(.int (lcmpW ((own_abs (own_rm (own_U (p1.toInt64) (own_s1 p3) (p2.toInt64) (own_s2 p3)) (own_pw ((own_max (own_s1 p3) (own_s2 p3)) - (p4 &&& (3 : Int32)))))) * (2 : Int64)) (own_pw ((own_max (own_s1 p3) (own_s2 p3)) - (p4 &&& (3 : Int32))))))])) _
            refine XS.ifYes X128.here hx rfl (pc0 := 249) (pc' := 271) rfl (hb hby at_249) rfl ((if0 _ _).trans (tlt (hq3 : (lcmpW ((own_abs (own_rm (own_U (p1.toInt64) (own_s1 p3) (p2.toInt64) (own_s2 p3)) (own_pw ((own_max (own_s1 p3) (own_s2 p3)) - (p4 &&& (3 : Int32)))))) * (2 : Int64)) (own_pw ((own_max (own_s1 p3) (own_s2 p3)) - (p4 &&& (3 : Int32))))) < (0 : Int32))).1) (by decide) (by decide) ?_
            refine XS.lload X128.here hx rfl (hb hby at_271) rfl ?_
            refine XS.lstore X128.here hx rfl (hb hby at_273) rfl (l' := #[.val (.int p1), .val (.int p2), .val (.int p3), .val (.int p4), .val (.int (own_s1 p3)), .val (.int (own_s2 p3)), .val (.ref b2), .val (.ref b3), .val (.ref b5), .val (.ref b7), .val (.ref b14), .val (.ref b25), .val (.int (1 : Int32)), .val (.ref b3), .val (.int (1 : Int32)), .val (.ref b108), .val (.int (own_max (own_s1 p3) (own_s2 p3))), .val (.long (own_U (p1.toInt64) (own_s1 p3) (p2.toInt64) (own_s2 p3))), .second, .val (.long ((own_U (p1.toInt64) (own_s1 p3) (p2.toInt64) (own_s2 p3)) / (own_pw ((own_max (own_s1 p3) (own_s2 p3)) - (p4 &&& (3 : Int32)))))), .second, .val (.int (own_max (own_s1 p3) (own_s2 p3))), .val (.int (p4 &&& (3 : Int32))), .val (.long (own_pw ((own_max (own_s1 p3) (own_s2 p3)) - (p4 &&& (3 : Int32))))), .second, .val (.long ((own_U (p1.toInt64) (own_s1 p3) (p2.toInt64) (own_s2 p3)) / (own_pw ((own_max (own_s1 p3) (own_s2 p3)) - (p4 &&& (3 : Int32)))))), .second, .val (.long (own_rm (own_U (p1.toInt64) (own_s1 p3) (p2.toInt64) (own_s2 p3)) (own_pw ((own_max (own_s1 p3) (own_s2 p3)) - (p4 &&& (3 : Int32)))))), .second]) rfl ?_
            refine XS.iload X128.here hx rfl (hb hby at_275) rfl ?_
            refine XS.istore X128.here hx rfl (hb hby at_277) rfl (l' := #[.val (.int p1), .val (.int p2), .val (.int p3), .val (.int p4), .val (.int (own_s1 p3)), .val (.int (own_s2 p3)), .val (.ref b2), .val (.ref b3), .val (.ref b5), .val (.ref b7), .val (.ref b14), .val (.ref b25), .val (.int (1 : Int32)), .val (.ref b3), .val (.int (1 : Int32)), .val (.ref b108), .val (.int (own_max (own_s1 p3) (own_s2 p3))), .val (.long (own_U (p1.toInt64) (own_s1 p3) (p2.toInt64) (own_s2 p3))), .second, .val (.long ((own_U (p1.toInt64) (own_s1 p3) (p2.toInt64) (own_s2 p3)) / (own_pw ((own_max (own_s1 p3) (own_s2 p3)) - (p4 &&& (3 : Int32)))))), .second, .val (.int (p4 &&& (3 : Int32))), .val (.int (p4 &&& (3 : Int32))), .val (.long (own_pw ((own_max (own_s1 p3) (own_s2 p3)) - (p4 &&& (3 : Int32))))), .second, .val (.long ((own_U (p1.toInt64) (own_s1 p3) (p2.toInt64) (own_s2 p3)) / (own_pw ((own_max (own_s1 p3) (own_s2 p3)) - (p4 &&& (3 : Int32)))))), .second, .val (.long (own_rm (own_U (p1.toInt64) (own_s1 p3) (p2.toInt64) (own_s2 p3)) (own_pw ((own_max (own_s1 p3) (own_s2 p3)) - (p4 &&& (3 : Int32)))))), .second]) rfl ?_
            refine XS.aload X128.here hx rfl (hb hby at_279) rfl rfl ?_
            refine XS.lload X128.here hx rfl (hb hby at_281) rfl ?_
            refine XS.iload X128.here hx rfl (hb hby at_283) rfl ?_
            refine st130 _ ?_
            refine st144.trans ?_
            refine XS.istore X144.here hx rfl (hb hby at_291) rfl (l' := #[.val (.int p1), .val (.int p2), .val (.int p3), .val (.int p4), .val (.int (own_s1 p3)), .val (.int (own_s2 p3)), .val (.ref b2), .val (.ref b3), .val (.ref b5), .val (.ref b7), .val (.ref b14), .val (.ref b25), .val (.int (1 : Int32)), .val (.ref b3), .val (.int (1 : Int32)), .val (.ref b108), .val (.int (own_max (own_s1 p3) (own_s2 p3))), .val (.long (own_U (p1.toInt64) (own_s1 p3) (p2.toInt64) (own_s2 p3))), .second, .val (.long ((own_U (p1.toInt64) (own_s1 p3) (p2.toInt64) (own_s2 p3)) / (own_pw ((own_max (own_s1 p3) (own_s2 p3)) - (p4 &&& (3 : Int32)))))), .second, .val (.int (p4 &&& (3 : Int32))), .val (.int (1 : Int32)), .val (.long (own_pw ((own_max (own_s1 p3) (own_s2 p3)) - (p4 &&& (3 : Int32))))), .second, .val (.long ((own_U (p1.toInt64) (own_s1 p3) (p2.toInt64) (own_s2 p3)) / (own_pw ((own_max (own_s1 p3) (own_s2 p3)) - (p4 &&& (3 : Int32)))))), .second, .val (.long (own_rm (own_U (p1.toInt64) (own_s1 p3) (p2.toInt64) (own_s2 p3)) (own_pw ((own_max (own_s1 p3) (own_s2 p3)) - (p4 &&& (3 : Int32)))))), .second]) rfl ?_
            refine XS.iload X144.here hx rfl (hb hby at_293) rfl ?_
            refine XS.ifNo X144.here hx rfl (hb hby at_295) rfl ((if0 _ _).trans (feq (by decide : ¬ ((1 : Int32) = (0 : Int32)))).1) ?_
            refine XS.iload X144.here hx rfl (hb hby at_298) rfl ?_
            refine XS.ifNo X144.here hx rfl (hb hby at_300) rfl ((if0 _ _).trans (feq (by decide : ¬ ((1 : Int32) = (0 : Int32)))).1) ?_
            refine XS.iload X144.here hx rfl (hb hby at_303) rfl ?_
            refine XS.ifNo X144.here hx rfl (hb hby at_305) rfl ((if0 _ _).trans (feq (by decide : ¬ ((1 : Int32) = (0 : Int32)))).1) ?_
            refine XS.iconst X144.here hx rfl (hb hby at_308) ?_
            refine XS.goto X144.here hx rfl (pc0 := 309) (pc' := 313) rfl (hb hby at_309) (by decide) (by decide) ?_
            show Steps p.tables e below (T144.setTop (mkF m 313 #[.val (.int p1), .val (.int p2), .val (.int p3), .val (.int p4), .val (.int (own_s1 p3)), .val (.int (own_s2 p3)), .val (.ref b2), .val (.ref b3), .val (.ref b5), .val (.ref b7), .val (.ref b14), .val (.ref b25), .val (.int (1 : Int32)), .val (.ref b3), .val (.int (1 : Int32)), .val (.ref b108), .val (.int (own_max (own_s1 p3) (own_s2 p3))), .val (.long (own_U (p1.toInt64) (own_s1 p3) (p2.toInt64) (own_s2 p3))), .second, .val (.long ((own_U (p1.toInt64) (own_s1 p3) (p2.toInt64) (own_s2 p3)) / (own_pw ((own_max (own_s1 p3) (own_s2 p3)) - (p4 &&& (3 : Int32)))))), .second, .val (.int (p4 &&& (3 : Int32))), .val (.int (1 : Int32)), .val (.long (own_pw ((own_max (own_s1 p3) (own_s2 p3)) - (p4 &&& (3 : Int32))))), .second, .val (.long ((own_U (p1.toInt64) (own_s1 p3) (p2.toInt64) (own_s2 p3)) / (own_pw ((own_max (own_s1 p3) (own_s2 p3)) - (p4 &&& (3 : Int32)))))), .second, .val (.long (own_rm (own_U (p1.toInt64) (own_s1 p3) (p2.toInt64) (own_s2 p3)) (own_pw ((own_max (own_s1 p3) (own_s2 p3)) - (p4 &&& (3 : Int32)))))), .second] [(.int (1 : Int32))])) _
            exact retN X144 hx (t := .boolean) Bd.returns (by simp) (hb hby at_313) hr
          · show Qrm0 Z p1 p2 p3 p4  h0 n0 _ T144.heap _
            rw [e144]
            exact ⟨rfl, N144⟩
        · have pk130 : ∀ target, Steps p.tables e below (T128.setTop (mkF m 258 #[.val (.int p1), .val (.int p2), .val (.int p3), .val (.int p4), .val (.int (own_s1 p3)), .val (.int (own_s2 p3)), .val (.ref b2), .val (.ref b3), .val (.ref b5), .val (.ref b7), .val (.ref b14), .val (.ref b25), .val (.int (1 : Int32)), .val (.ref b3), .val (.int (1 : Int32)), .val (.ref b108), .val (.int (own_max (own_s1 p3) (own_s2 p3))), .val (.long (own_U (p1.toInt64) (own_s1 p3) (p2.toInt64) (own_s2 p3))), .second, .val (.long (own_U (p1.toInt64) (own_s1 p3) (p2.toInt64) (own_s2 p3))), .second, .val (.int (own_max (own_s1 p3) (own_s2 p3))), .val (.int (p4 &&& (3 : Int32))), .val (.long (own_pw ((own_max (own_s1 p3) (own_s2 p3)) - (p4 &&& (3 : Int32))))), .second, .val (.long ((own_U (p1.toInt64) (own_s1 p3) (p2.toInt64) (own_s2 p3)) / (own_pw ((own_max (own_s1 p3) (own_s2 p3)) - (p4 &&& (3 : Int32)))))), .second, .val (.long (own_rm (own_U (p1.toInt64) (own_s1 p3) (p2.toInt64) (own_s2 p3)) (own_pw ((own_max (own_s1 p3) (own_s2 p3)) - (p4 &&& (3 : Int32)))))), .second] [(.int (lcmpW (own_U (p1.toInt64) (own_s1 p3) (p2.toInt64) (own_s2 p3)) (0 : Int64))), (.long ((own_U (p1.toInt64) (own_s1 p3) (p2.toInt64) (own_s2 p3)) / (own_pw ((own_max (own_s1 p3) (own_s2 p3)) - (p4 &&& (3 : Int32))))))])) target → Steps p.tables e below (s₁.setTop (mkF m 0 #[.val (.int p1), .val (.int p2), .val (.int p3), .val (.int p4), .unset, .unset, .unset, .unset, .unset, .unset, .unset, .unset, .unset, .unset, .unset, .unset, .unset, .unset, .unset, .unset, .unset, .unset, .unset, .unset, .unset, .unset, .unset, .unset, .unset] [])) target := by
            intro target kt
            refine pk129 _ ?_
            show Steps p.tables e below (T128.setTop (mkF m 249 #[.val (.int p1), .val (.int p2), .val (.int p3), .val (.int p4), .val (.int (own_s1 p3)), .val (.int (own_s2 p3)), .val (.ref b2), .val (.ref b3), .val (.ref b5), .val (.ref b7), .val (.ref b14), .val (.ref b25), .val (.int (1 : Int32)), .val (.ref b3), .val (.int (1 : Int32)), .val (.ref b108), .val (.int (own_max (own_s1 p3) (own_s2 p3))), .val (.long (own_U (p1.toInt64) (own_s1 p3) (p2.toInt64) (own_s2 p3))), .second, .val (.long (own_U (p1.toInt64) (own_s1 p3) (p2.toInt64) (own_s2 p3))), .second, .val (.int (own_max (own_s1 p3) (own_s2 p3))), .val (.int (p4 &&& (3 : Int32))), .val (.long (own_pw ((own_max (own_s1 p3) (own_s2 p3)) - (p4 &&& (3 : Int32))))), .second, .val (.long ((own_U (p1.toInt64) (own_s1 p3) (p2.toInt64) (own_s2 p3)) / (own_pw ((own_max (own_s1 p3) (own_s2 p3)) - (p4 &&& (3 : Int32)))))), .second, .val (.long (own_rm (own_U (p1.toInt64) (own_s1 p3) (p2.toInt64) (own_s2 p3)) (own_pw ((own_max (own_s1 p3) (own_s2 p3)) - (p4 &&& (3 : Int32)))))), .second] [(.int (lcmpW ((own_abs (own_rm (own_U (p1.toInt64) (own_s1 p3) (p2.toInt64) (own_s2 p3)) (own_pw ((own_max (own_s1 p3) (own_s2 p3)) - (p4 &&& (3 : Int32)))))) * (2 : Int64)) (own_pw ((own_max (own_s1 p3) (own_s2 p3)) - (p4 &&& (3 : Int32))))))])) _
            refine XS.ifNo X128.here hx rfl (hb hby at_249) rfl ((if0 _ _).trans (flt (hq3 : ¬ ((lcmpW ((own_abs (own_rm (own_U (p1.toInt64) (own_s1 p3) (p2.toInt64) (own_s2 p3)) (own_pw ((own_max (own_s1 p3) (own_s2 p3)) - (p4 &&& (3 : Int32)))))) * (2 : Int64)) (own_pw ((own_max (own_s1 p3) (own_s2 p3)) - (p4 &&& (3 : Int32))))) < (0 : Int32)))).1) ?_
            refine XS.lload X128.here hx rfl (hb hby at_252) rfl ?_
            refine XS.lload X128.here hx rfl (hb hby at_254) rfl ?_
            refine XS.lconst X128.here hx rfl (hb hby at_256) ?_
            refine XS.lcmp X128.here hx rfl (hb hby at_257) rfl ?_
            exact kt
          by_cases hq4 : (lcmpW (own_U (p1.toInt64) (own_s1 p3) (p2.toInt64) (own_s2 p3)) (0 : Int64)) < (0 : Int32)
          · have es : (own_qs (own_U (p1.toInt64) (own_s1 p3) (p2.toInt64) (own_s2 p3))).toInt64 = (-1 : Int64) := by rw [own_qs, if_pos hq4]; rfl
            have hQ3 : own_HB (((own_U (p1.toInt64) (own_s1 p3) (p2.toInt64) (own_s2 p3)) / (own_pw ((own_max (own_s1 p3) (own_s2 p3)) - (p4 &&& (3 : Int32))))) + (-1 : Int64)) := by rw [← es]; exact hQ2
            obtain ⟨_, _, ⟨T131, L131, k131, n131⟩, -, X131, ⟨Lc131, hQ131, l131, y131, z131⟩, st131⟩ := Jvm.LawKit.callS X128 hx (y := m_0) hown (mvT hZ (own_w hw 7 rfl)) (mvT hZ (own_w hw 8 rfl)) (mvT hZ (own_w hw 9 rfl)) (mvT hZ (own_w hw 10 rfl)) (by decide) (backOf (W := 1) (rmV2 l Z a0 hw [] (((own_U (p1.toInt64) (own_s1 p3) (p2.toInt64) (own_s2 p3)) / (own_pw ((own_max (own_s1 p3) (own_s2 p3)) - (p4 &&& (3 : Int32))))) + (-1 : Int64)) (p4 &&& (3 : Int32))  T125.heap n0 Z126 J (((((((((((((O0.keep K3 all0).keep K5 all0).ext E7).keep K12 (allS g_b7 all0)).ext E14).keep K23 (allS g_b14 all0)).keep K26 all0).keep K35 (allS g_b14 all0)).keep K38 all0).keep K108 (allS g_b14 all0)).keep K112 all0).keep K114 all0).keep K125 all0) (own_hm hQ3) (own_16 hp8)) hZ (own_w hw 10 rfl) (own_w hw 9 rfl) (by decide) (by decide)) (g := (mkF m 285 #[.val (.int p1), .val (.int p2), .val (.int p3), .val (.int p4), .val (.int (own_s1 p3)), .val (.int (own_s2 p3)), .val (.ref b2), .val (.ref b3), .val (.ref b5), .val (.ref b7), .val (.ref b14), .val (.ref b25), .val (.int (1 : Int32)), .val (.ref b3), .val (.int (1 : Int32)), .val (.ref b108), .val (.int (own_max (own_s1 p3) (own_s2 p3))), .val (.long (own_U (p1.toInt64) (own_s1 p3) (p2.toInt64) (own_s2 p3))), .second, .val (.long (((own_U (p1.toInt64) (own_s1 p3) (p2.toInt64) (own_s2 p3)) / (own_pw ((own_max (own_s1 p3) (own_s2 p3)) - (p4 &&& (3 : Int32))))) + (-1 : Int64))), .second, .val (.int (p4 &&& (3 : Int32))), .val (.int (p4 &&& (3 : Int32))), .val (.long (own_pw ((own_max (own_s1 p3) (own_s2 p3)) - (p4 &&& (3 : Int32))))), .second, .val (.long (((own_U (p1.toInt64) (own_s1 p3) (p2.toInt64) (own_s2 p3)) / (own_pw ((own_max (own_s1 p3) (own_s2 p3)) - (p4 &&& (3 : Int32))))) + (-1 : Int64))), .second, .val (.long (own_rm (own_U (p1.toInt64) (own_s1 p3) (p2.toInt64) (own_s2 p3)) (own_pw ((own_max (own_s1 p3) (own_s2 p3)) - (p4 &&& (3 : Int32)))))), .second] [(.int (p4 &&& (3 : Int32))), (.long (((own_U (p1.toInt64) (own_s1 p3) (p2.toInt64) (own_s2 p3)) / (own_pw ((own_max (own_s1 p3) (own_s2 p3)) - (p4 &&& (3 : Int32))))) + (-1 : Int64))), (.ref b108)])) rfl (by rw [hml]; rfl) (argsL := [(.long (((own_U (p1.toInt64) (own_s1 p3) (p2.toInt64) (own_s2 p3)) / (own_pw ((own_max (own_s1 p3) (own_s2 p3)) - (p4 &&& (3 : Int32))))) + (-1 : Int64))), (.int (p4 &&& (3 : Int32)))]) (rest := [(.ref b108)]) (lenOf pd_10 rfl) rfl (by show 2 * 0 + _ ≤ _; exact Nat.le_of_eq rfl) (hb hby at_285) (fun _ _ => ⟨rfl, e128, (by decide : 11 + 1 ≤ _), (by decide : 57 + 5 ≤ _)⟩)
            dsimp only [Pt.U, Pt.locs, Pt.cells, Pt.slots] at X131 l131 y131 z131 st131 hQ131
            subst y131 z131
            obtain ⟨b131, rfl, N131q, K131, q131, B131, P131⟩ := hQ131
            have N131 : Fr n0 L131 := by rw [l131]; exact Fr.app N128 N131q
            have Z132 : n0 ≤ T131.heap.size := Nat.le_trans Z126 K131.1
            have f133 := B108.1.keep K112
            have f134 := f133.keep K114
            have f135 := f134.keep K125
            have f136 := f135.keep K131
            have f137 := B108.2.1.keep K112 nin0
            have f138 := f137.keep K114 nin0
            have f139 := f138.keep K125 nin0
            have f140 := f139.keep K131 nin0
            have f141 := B108.2.2.keep K112 nin0
            have f142 := f141.keep K114 nin0
            have f143 := f142.keep K125 nin0
            have f144 := f143.keep K131 nin0
            have Bq : own_BD Z T131.heap b108 (p4 &&& (3 : Int32)) (((own_U (p1.toInt64) (own_s1 p3) (p2.toInt64) (own_s2 p3)) / (own_pw ((own_max (own_s1 p3) (own_s2 p3)) - (p4 &&& (3 : Int32))))) + (-1 : Int64)) := by have u := (⟨f136, f140, f144⟩ : own_BD Z _ _ _ _); rw [own_os, own_oz, own_cs, own_cz, if_pos hq1, if_pos hq1, if_neg (fun y => hq2 ((lw_eq _ _).mpr y)), if_neg (fun y => hq2 ((lw_eq _ _).mpr y)), own_dv, if_neg hq2, if_neg (fun y => hq3 ((own_inc hD).mp y)), es] at u; exact u
            obtain ⟨cq145, kq145, q145a, q145b, q145c⟩ := isOf hZ rfl f136
            obtain ⟨_, _, ⟨T145, L145, k145, n145⟩, -, X145, ⟨Lc145, hQ145, l145, y145, z145⟩, st145⟩ := X131.virtualBack hx (y := m_1) (z := m_1) hown (mvT hZ (own_w hw 69 rfl)) (mvT hZ (own_w hw 70 rfl)) (notFace_of_selects (args := #[]) (mvT hZ (own_w hw 72 rfl))) (mvT hZ (own_w hw 72 rfl)) (mvT hZ (own_w hw 71 rfl)) (by decide) (backOf (W := 0) (rmEq l Z a0 hw [] b108 b131 (p4 &&& (3 : Int32)) (((own_U (p1.toInt64) (own_s1 p3) (p2.toInt64) (own_s2 p3)) / (own_pw ((own_max (own_s1 p3) (own_s2 p3)) - (p4 &&& (3 : Int32))))) + (-1 : Int64)) T131.heap n0 Z132 Bq ⟨B131.1, B131.2.1, B131.2.2⟩ (own_hm hQ3)) hZ (own_w hw 73 rfl) (own_w hw 9 rfl) (by decide) (by decide)) q145a q145c (g := (mkF m 288 #[.val (.int p1), .val (.int p2), .val (.int p3), .val (.int p4), .val (.int (own_s1 p3)), .val (.int (own_s2 p3)), .val (.ref b2), .val (.ref b3), .val (.ref b5), .val (.ref b7), .val (.ref b14), .val (.ref b25), .val (.int (1 : Int32)), .val (.ref b3), .val (.int (1 : Int32)), .val (.ref b108), .val (.int (own_max (own_s1 p3) (own_s2 p3))), .val (.long (own_U (p1.toInt64) (own_s1 p3) (p2.toInt64) (own_s2 p3))), .second, .val (.long (((own_U (p1.toInt64) (own_s1 p3) (p2.toInt64) (own_s2 p3)) / (own_pw ((own_max (own_s1 p3) (own_s2 p3)) - (p4 &&& (3 : Int32))))) + (-1 : Int64))), .second, .val (.int (p4 &&& (3 : Int32))), .val (.int (p4 &&& (3 : Int32))), .val (.long (own_pw ((own_max (own_s1 p3) (own_s2 p3)) - (p4 &&& (3 : Int32))))), .second, .val (.long (((own_U (p1.toInt64) (own_s1 p3) (p2.toInt64) (own_s2 p3)) / (own_pw ((own_max (own_s1 p3) (own_s2 p3)) - (p4 &&& (3 : Int32))))) + (-1 : Int64))), .second, .val (.long (own_rm (own_U (p1.toInt64) (own_s1 p3) (p2.toInt64) (own_s2 p3)) (own_pw ((own_max (own_s1 p3) (own_s2 p3)) - (p4 &&& (3 : Int32)))))), .second] [(.ref b131), (.ref b108)])) rfl (by rw [hml]; rfl) (Steps.refl _) (argsL := [(.ref b131)]) (rest := []) (lenOf pd_28 rfl) rfl (by show 2 * 0 + _ ≤ _; exact Nat.le_of_eq rfl) (hb hby at_288) (fun _ _ => ⟨rfl, rfl, (by decide : 12 + 0 ≤ _), (by decide : 62 + 0 ≤ _)⟩)
            dsimp only [Pt.U, Pt.locs, Pt.cells, Pt.slots] at X145 l145 y145 z145 st145 hQ145
            subst y145 z145
            obtain ⟨rfl, N145q, e145⟩ := hQ145
            have N145 : Fr n0 L145 := by rw [l145]; exact Fr.app N131 N145q
            obtain ⟨fs, hr, hrun, hended, hW, hsame⟩ := X145.leave (v := some (.int (1 : Int32))) (fun h => by rw [Bd.returns] at h; cases h) Bd.notSynchronized
            refine ⟨_, _, pre0 _ ?_, hrun, hended, _, _, rfl, ?_, ⟨_, rfl⟩, hW, hsame.mono (by decide) (by decide)⟩
            · refine pk130 _ ?_
              show Steps p.tables e below (T128.setTop (mkF m 258 #[.val (.int p1), .val (.int p2), .val (.int p3), .val (.int p4), .val (.int (own_s1 p3)), .val (.int (own_s2 p3)), .val (.ref b2), .val (.ref b3), .val (.ref b5), .val (.ref b7), .val (.ref b14), .val (.ref b25), .val (.int (1 : Int32)), .val (.ref b3), .val (.int (1 : Int32)), .val (.ref b108), .val (.int (own_max (own_s1 p3) (own_s2 p3))), .val (.long (own_U (p1.toInt64) (own_s1 p3) (p2.toInt64) (own_s2 p3))), .second, .val (.long (own_U (p1.toInt64) (own_s1 p3) (p2.toInt64) (own_s2 p3))), .second, .val (.int (own_max (own_s1 p3) (own_s2 p3))), .val (.int (p4 &&& (3 : Int32))), .val (.long (own_pw ((own_max (own_s1 p3) (own_s2 p3)) - (p4 &&& (3 : Int32))))), .second, .val (.long ((own_U (p1.toInt64) (own_s1 p3) (p2.toInt64) (own_s2 p3)) / (own_pw ((own_max (own_s1 p3) (own_s2 p3)) - (p4 &&& (3 : Int32)))))), .second, .val (.long (own_rm (own_U (p1.toInt64) (own_s1 p3) (p2.toInt64) (own_s2 p3)) (own_pw ((own_max (own_s1 p3) (own_s2 p3)) - (p4 &&& (3 : Int32)))))), .second] [(.int (lcmpW (own_U (p1.toInt64) (own_s1 p3) (p2.toInt64) (own_s2 p3)) (0 : Int64))), (.long ((own_U (p1.toInt64) (own_s1 p3) (p2.toInt64) (own_s2 p3)) / (own_pw ((own_max (own_s1 p3) (own_s2 p3)) - (p4 &&& (3 : Int32))))))])) _
              refine XS.ifNo X128.here hx rfl (hb hby at_258) rfl ((if0 _ _).trans (tlt (hq4 : (lcmpW (own_U (p1.toInt64) (own_s1 p3) (p2.toInt64) (own_s2 p3)) (0 : Int64)) < (0 : Int32))).2.1) ?_
              refine X128.ldc2Long hx hown (mvT hZ (own_w hw 230 rfl)) (g := (mkF m 261 #[.val (.int p1), .val (.int p2), .val (.int p3), .val (.int p4), .val (.int (own_s1 p3)), .val (.int (own_s2 p3)), .val (.ref b2), .val (.ref b3), .val (.ref b5), .val (.ref b7), .val (.ref b14), .val (.ref b25), .val (.int (1 : Int32)), .val (.ref b3), .val (.int (1 : Int32)), .val (.ref b108), .val (.int (own_max (own_s1 p3) (own_s2 p3))), .val (.long (own_U (p1.toInt64) (own_s1 p3) (p2.toInt64) (own_s2 p3))), .second, .val (.long (own_U (p1.toInt64) (own_s1 p3) (p2.toInt64) (own_s2 p3))), .second, .val (.int (own_max (own_s1 p3) (own_s2 p3))), .val (.int (p4 &&& (3 : Int32))), .val (.long (own_pw ((own_max (own_s1 p3) (own_s2 p3)) - (p4 &&& (3 : Int32))))), .second, .val (.long ((own_U (p1.toInt64) (own_s1 p3) (p2.toInt64) (own_s2 p3)) / (own_pw ((own_max (own_s1 p3) (own_s2 p3)) - (p4 &&& (3 : Int32)))))), .second, .val (.long (own_rm (own_U (p1.toInt64) (own_s1 p3) (p2.toInt64) (own_s2 p3)) (own_pw ((own_max (own_s1 p3) (own_s2 p3)) - (p4 &&& (3 : Int32)))))), .second] [(.long ((own_U (p1.toInt64) (own_s1 p3) (p2.toInt64) (own_s2 p3)) / (own_pw ((own_max (own_s1 p3) (own_s2 p3)) - (p4 &&& (3 : Int32))))))])) rfl (hb hby at_261) _ ?_
              refine XS.goto X128.here hx rfl (pc0 := 264) (pc' := 268) rfl (hb hby at_264) (by decide) (by decide) ?_
              refine XS.ladd X128.here hx rfl (hb hby at_268) rfl ?_
              refine XS.lstore X128.here hx rfl (hb hby at_269) rfl (l' := #[.val (.int p1), .val (.int p2), .val (.int p3), .val (.int p4), .val (.int (own_s1 p3)), .val (.int (own_s2 p3)), .val (.ref b2), .val (.ref b3), .val (.ref b5), .val (.ref b7), .val (.ref b14), .val (.ref b25), .val (.int (1 : Int32)), .val (.ref b3), .val (.int (1 : Int32)), .val (.ref b108), .val (.int (own_max (own_s1 p3) (own_s2 p3))), .val (.long (own_U (p1.toInt64) (own_s1 p3) (p2.toInt64) (own_s2 p3))), .second, .val (.long (own_U (p1.toInt64) (own_s1 p3) (p2.toInt64) (own_s2 p3))), .second, .val (.int (own_max (own_s1 p3) (own_s2 p3))), .val (.int (p4 &&& (3 : Int32))), .val (.long (own_pw ((own_max (own_s1 p3) (own_s2 p3)) - (p4 &&& (3 : Int32))))), .second, .val (.long (((own_U (p1.toInt64) (own_s1 p3) (p2.toInt64) (own_s2 p3)) / (own_pw ((own_max (own_s1 p3) (own_s2 p3)) - (p4 &&& (3 : Int32))))) + (-1 : Int64))), .second, .val (.long (own_rm (own_U (p1.toInt64) (own_s1 p3) (p2.toInt64) (own_s2 p3)) (own_pw ((own_max (own_s1 p3) (own_s2 p3)) - (p4 &&& (3 : Int32)))))), .second]) rfl ?_
              refine XS.lload X128.here hx rfl (hb hby at_271) rfl ?_
              refine XS.lstore X128.here hx rfl (hb hby at_273) rfl (l' := #[.val (.int p1), .val (.int p2), .val (.int p3), .val (.int p4), .val (.int (own_s1 p3)), .val (.int (own_s2 p3)), .val (.ref b2), .val (.ref b3), .val (.ref b5), .val (.ref b7), .val (.ref b14), .val (.ref b25), .val (.int (1 : Int32)), .val (.ref b3), .val (.int (1 : Int32)), .val (.ref b108), .val (.int (own_max (own_s1 p3) (own_s2 p3))), .val (.long (own_U (p1.toInt64) (own_s1 p3) (p2.toInt64) (own_s2 p3))), .second, .val (.long (((own_U (p1.toInt64) (own_s1 p3) (p2.toInt64) (own_s2 p3)) / (own_pw ((own_max (own_s1 p3) (own_s2 p3)) - (p4 &&& (3 : Int32))))) + (-1 : Int64))), .second, .val (.int (own_max (own_s1 p3) (own_s2 p3))), .val (.int (p4 &&& (3 : Int32))), .val (.long (own_pw ((own_max (own_s1 p3) (own_s2 p3)) - (p4 &&& (3 : Int32))))), .second, .val (.long (((own_U (p1.toInt64) (own_s1 p3) (p2.toInt64) (own_s2 p3)) / (own_pw ((own_max (own_s1 p3) (own_s2 p3)) - (p4 &&& (3 : Int32))))) + (-1 : Int64))), .second, .val (.long (own_rm (own_U (p1.toInt64) (own_s1 p3) (p2.toInt64) (own_s2 p3)) (own_pw ((own_max (own_s1 p3) (own_s2 p3)) - (p4 &&& (3 : Int32)))))), .second]) rfl ?_
              refine XS.iload X128.here hx rfl (hb hby at_275) rfl ?_
              refine XS.istore X128.here hx rfl (hb hby at_277) rfl (l' := #[.val (.int p1), .val (.int p2), .val (.int p3), .val (.int p4), .val (.int (own_s1 p3)), .val (.int (own_s2 p3)), .val (.ref b2), .val (.ref b3), .val (.ref b5), .val (.ref b7), .val (.ref b14), .val (.ref b25), .val (.int (1 : Int32)), .val (.ref b3), .val (.int (1 : Int32)), .val (.ref b108), .val (.int (own_max (own_s1 p3) (own_s2 p3))), .val (.long (own_U (p1.toInt64) (own_s1 p3) (p2.toInt64) (own_s2 p3))), .second, .val (.long (((own_U (p1.toInt64) (own_s1 p3) (p2.toInt64) (own_s2 p3)) / (own_pw ((own_max (own_s1 p3) (own_s2 p3)) - (p4 &&& (3 : Int32))))) + (-1 : Int64))), .second, .val (.int (p4 &&& (3 : Int32))), .val (.int (p4 &&& (3 : Int32))), .val (.long (own_pw ((own_max (own_s1 p3) (own_s2 p3)) - (p4 &&& (3 : Int32))))), .second, .val (.long (((own_U (p1.toInt64) (own_s1 p3) (p2.toInt64) (own_s2 p3)) / (own_pw ((own_max (own_s1 p3) (own_s2 p3)) - (p4 &&& (3 : Int32))))) + (-1 : Int64))), .second, .val (.long (own_rm (own_U (p1.toInt64) (own_s1 p3) (p2.toInt64) (own_s2 p3)) (own_pw ((own_max (own_s1 p3) (own_s2 p3)) - (p4 &&& (3 : Int32)))))), .second]) rfl ?_
              refine XS.aload X128.here hx rfl (hb hby at_279) rfl rfl ?_
              refine XS.lload X128.here hx rfl (hb hby at_281) rfl ?_
              refine XS.iload X128.here hx rfl (hb hby at_283) rfl ?_
              refine st131 _ ?_
              refine st145.trans ?_
              refine XS.istore X145.here hx rfl (hb hby at_291) rfl (l' := #[.val (.int p1), .val (.int p2), .val (.int p3), .val (.int p4), .val (.int (own_s1 p3)), .val (.int (own_s2 p3)), .val (.ref b2), .val (.ref b3), .val (.ref b5), .val (.ref b7), .val (.ref b14), .val (.ref b25), .val (.int (1 : Int32)), .val (.ref b3), .val (.int (1 : Int32)), .val (.ref b108), .val (.int (own_max (own_s1 p3) (own_s2 p3))), .val (.long (own_U (p1.toInt64) (own_s1 p3) (p2.toInt64) (own_s2 p3))), .second, .val (.long (((own_U (p1.toInt64) (own_s1 p3) (p2.toInt64) (own_s2 p3)) / (own_pw ((own_max (own_s1 p3) (own_s2 p3)) - (p4 &&& (3 : Int32))))) + (-1 : Int64))), .second, .val (.int (p4 &&& (3 : Int32))), .val (.int (1 : Int32)), .val (.long (own_pw ((own_max (own_s1 p3) (own_s2 p3)) - (p4 &&& (3 : Int32))))), .second, .val (.long (((own_U (p1.toInt64) (own_s1 p3) (p2.toInt64) (own_s2 p3)) / (own_pw ((own_max (own_s1 p3) (own_s2 p3)) - (p4 &&& (3 : Int32))))) + (-1 : Int64))), .second, .val (.long (own_rm (own_U (p1.toInt64) (own_s1 p3) (p2.toInt64) (own_s2 p3)) (own_pw ((own_max (own_s1 p3) (own_s2 p3)) - (p4 &&& (3 : Int32)))))), .second]) rfl ?_
              refine XS.iload X145.here hx rfl (hb hby at_293) rfl ?_
              refine XS.ifNo X145.here hx rfl (hb hby at_295) rfl ((if0 _ _).trans (feq (by decide : ¬ ((1 : Int32) = (0 : Int32)))).1) ?_
              refine XS.iload X145.here hx rfl (hb hby at_298) rfl ?_
              refine XS.ifNo X145.here hx rfl (hb hby at_300) rfl ((if0 _ _).trans (feq (by decide : ¬ ((1 : Int32) = (0 : Int32)))).1) ?_
              refine XS.iload X145.here hx rfl (hb hby at_303) rfl ?_
              refine XS.ifNo X145.here hx rfl (hb hby at_305) rfl ((if0 _ _).trans (feq (by decide : ¬ ((1 : Int32) = (0 : Int32)))).1) ?_
              refine XS.iconst X145.here hx rfl (hb hby at_308) ?_
              refine XS.goto X145.here hx rfl (pc0 := 309) (pc' := 313) rfl (hb hby at_309) (by decide) (by decide) ?_
              show Steps p.tables e below (T145.setTop (mkF m 313 #[.val (.int p1), .val (.int p2), .val (.int p3), .val (.int p4), .val (.int (own_s1 p3)), .val (.int (own_s2 p3)), .val (.ref b2), .val (.ref b3), .val (.ref b5), .val (.ref b7), .val (.ref b14), .val (.ref b25), .val (.int (1 : Int32)), .val (.ref b3), .val (.int (1 : Int32)), .val (.ref b108), .val (.int (own_max (own_s1 p3) (own_s2 p3))), .val (.long (own_U (p1.toInt64) (own_s1 p3) (p2.toInt64) (own_s2 p3))), .second, .val (.long (((own_U (p1.toInt64) (own_s1 p3) (p2.toInt64) (own_s2 p3)) / (own_pw ((own_max (own_s1 p3) (own_s2 p3)) - (p4 &&& (3 : Int32))))) + (-1 : Int64))), .second, .val (.int (p4 &&& (3 : Int32))), .val (.int (1 : Int32)), .val (.long (own_pw ((own_max (own_s1 p3) (own_s2 p3)) - (p4 &&& (3 : Int32))))), .second, .val (.long (((own_U (p1.toInt64) (own_s1 p3) (p2.toInt64) (own_s2 p3)) / (own_pw ((own_max (own_s1 p3) (own_s2 p3)) - (p4 &&& (3 : Int32))))) + (-1 : Int64))), .second, .val (.long (own_rm (own_U (p1.toInt64) (own_s1 p3) (p2.toInt64) (own_s2 p3)) (own_pw ((own_max (own_s1 p3) (own_s2 p3)) - (p4 &&& (3 : Int32)))))), .second] [(.int (1 : Int32))])) _
              exact retN X145 hx (t := .boolean) Bd.returns (by simp) (hb hby at_313) hr
            · show Qrm0 Z p1 p2 p3 p4  h0 n0 _ T145.heap _
              rw [e145]
              exact ⟨rfl, N145⟩
          · have es : (own_qs (own_U (p1.toInt64) (own_s1 p3) (p2.toInt64) (own_s2 p3))).toInt64 = (1 : Int64) := by rw [own_qs, if_neg hq4]; rfl
            have hQ3 : own_HB (((own_U (p1.toInt64) (own_s1 p3) (p2.toInt64) (own_s2 p3)) / (own_pw ((own_max (own_s1 p3) (own_s2 p3)) - (p4 &&& (3 : Int32))))) + (1 : Int64)) := by rw [← es]; exact hQ2
            obtain ⟨_, _, ⟨T131, L131, k131, n131⟩, -, X131, ⟨Lc131, hQ131, l131, y131, z131⟩, st131⟩ := Jvm.LawKit.callS X128 hx (y := m_0) hown (mvT hZ (own_w hw 7 rfl)) (mvT hZ (own_w hw 8 rfl)) (mvT hZ (own_w hw 9 rfl)) (mvT hZ (own_w hw 10 rfl)) (by decide) (backOf (W := 1) (rmV2 l Z a0 hw [] (((own_U (p1.toInt64) (own_s1 p3) (p2.toInt64) (own_s2 p3)) / (own_pw ((own_max (own_s1 p3) (own_s2 p3)) - (p4 &&& (3 : Int32))))) + (1 : Int64)) (p4 &&& (3 : Int32))  T125.heap n0 Z126 J (((((((((((((O0.keep K3 all0).keep K5 all0).ext E7).keep K12 (allS g_b7 all0)).ext E14).keep K23 (allS g_b14 all0)).keep K26 all0).keep K35 (allS g_b14 all0)).keep K38 all0).keep K108 (allS g_b14 all0)).keep K112 all0).keep K114 all0).keep K125 all0) (own_hm hQ3) (own_16 hp8)) hZ (own_w hw 10 rfl) (own_w hw 9 rfl) (by decide) (by decide)) (g := (mkF m 285 #[.val (.int p1), .val (.int p2), .val (.int p3), .val (.int p4), .val (.int (own_s1 p3)), .val (.int (own_s2 p3)), .val (.ref b2), .val (.ref b3), .val (.ref b5), .val (.ref b7), .val (.ref b14), .val (.ref b25), .val (.int (1 : Int32)), .val (.ref b3), .val (.int (1 : Int32)), .val (.ref b108), .val (.int (own_max (own_s1 p3) (own_s2 p3))), .val (.long (own_U (p1.toInt64) (own_s1 p3) (p2.toInt64) (own_s2 p3))), .second, .val (.long (((own_U (p1.toInt64) (own_s1 p3) (p2.toInt64) (own_s2 p3)) / (own_pw ((own_max (own_s1 p3) (own_s2 p3)) - (p4 &&& (3 : Int32))))) + (1 : Int64))), .second, .val (.int (p4 &&& (3 : Int32))), .val (.int (p4 &&& (3 : Int32))), .val (.long (own_pw ((own_max (own_s1 p3) (own_s2 p3)) - (p4 &&& (3 : Int32))))), .second, .val (.long (((own_U (p1.toInt64) (own_s1 p3) (p2.toInt64) (own_s2 p3)) / (own_pw ((own_max (own_s1 p3) (own_s2 p3)) - (p4 &&& (3 : Int32))))) + (1 : Int64))), .second, .val (.long (own_rm (own_U (p1.toInt64) (own_s1 p3) (p2.toInt64) (own_s2 p3)) (own_pw ((own_max (own_s1 p3) (own_s2 p3)) - (p4 &&& (3 : Int32)))))), .second] [(.int (p4 &&& (3 : Int32))), (.long (((own_U (p1.toInt64) (own_s1 p3) (p2.toInt64) (own_s2 p3)) / (own_pw ((own_max (own_s1 p3) (own_s2 p3)) - (p4 &&& (3 : Int32))))) + (1 : Int64))), (.ref b108)])) rfl (by rw [hml]; rfl) (argsL := [(.long (((own_U (p1.toInt64) (own_s1 p3) (p2.toInt64) (own_s2 p3)) / (own_pw ((own_max (own_s1 p3) (own_s2 p3)) - (p4 &&& (3 : Int32))))) + (1 : Int64))), (.int (p4 &&& (3 : Int32)))]) (rest := [(.ref b108)]) (lenOf pd_10 rfl) rfl (by show 2 * 0 + _ ≤ _; exact Nat.le_of_eq rfl) (hb hby at_285) (fun _ _ => ⟨rfl, e128, (by decide : 11 + 1 ≤ _), (by decide : 57 + 5 ≤ _)⟩)
            dsimp only [Pt.U, Pt.locs, Pt.cells, Pt.slots] at X131 l131 y131 z131 st131 hQ131
            subst y131 z131
            obtain ⟨b131, rfl, N131q, K131, q131, B131, P131⟩ := hQ131
            have N131 : Fr n0 L131 := by rw [l131]; exact Fr.app N128 N131q
            have Z132 : n0 ≤ T131.heap.size := Nat.le_trans Z126 K131.1
            have f133 := B108.1.keep K112
            have f134 := f133.keep K114
            have f135 := f134.keep K125
            have f136 := f135.keep K131
            have f137 := B108.2.1.keep K112 nin0
            have f138 := f137.keep K114 nin0
            have f139 := f138.keep K125 nin0
            have f140 := f139.keep K131 nin0
            have f141 := B108.2.2.keep K112 nin0
            have f142 := f141.keep K114 nin0
            have f143 := f142.keep K125 nin0
            have f144 := f143.keep K131 nin0
            have Bq : own_BD Z T131.heap b108 (p4 &&& (3 : Int32)) (((own_U (p1.toInt64) (own_s1 p3) (p2.toInt64) (own_s2 p3)) / (own_pw ((own_max (own_s1 p3) (own_s2 p3)) - (p4 &&& (3 : Int32))))) + (1 : Int64)) := by have u := (⟨f136, f140, f144⟩ : own_BD Z _ _ _ _); rw [own_os, own_oz, own_cs, own_cz, if_pos hq1, if_pos hq1, if_neg (fun y => hq2 ((lw_eq _ _).mpr y)), if_neg (fun y => hq2 ((lw_eq _ _).mpr y)), own_dv, if_neg hq2, if_neg (fun y => hq3 ((own_inc hD).mp y)), es] at u; exact u
            obtain ⟨cq145, kq145, q145a, q145b, q145c⟩ := isOf hZ rfl f136
            obtain ⟨_, _, ⟨T145, L145, k145, n145⟩, -, X145, ⟨Lc145, hQ145, l145, y145, z145⟩, st145⟩ := X131.virtualBack hx (y := m_1) (z := m_1) hown (mvT hZ (own_w hw 69 rfl)) (mvT hZ (own_w hw 70 rfl)) (notFace_of_selects (args := #[]) (mvT hZ (own_w hw 72 rfl))) (mvT hZ (own_w hw 72 rfl)) (mvT hZ (own_w hw 71 rfl)) (by decide) (backOf (W := 0) (rmEq l Z a0 hw [] b108 b131 (p4 &&& (3 : Int32)) (((own_U (p1.toInt64) (own_s1 p3) (p2.toInt64) (own_s2 p3)) / (own_pw ((own_max (own_s1 p3) (own_s2 p3)) - (p4 &&& (3 : Int32))))) + (1 : Int64)) T131.heap n0 Z132 Bq ⟨B131.1, B131.2.1, B131.2.2⟩ (own_hm hQ3)) hZ (own_w hw 73 rfl) (own_w hw 9 rfl) (by decide) (by decide)) q145a q145c (g := (mkF m 288 #[.val (.int p1), .val (.int p2), .val (.int p3), .val (.int p4), .val (.int (own_s1 p3)), .val (.int (own_s2 p3)), .val (.ref b2), .val (.ref b3), .val (.ref b5), .val (.ref b7), .val (.ref b14), .val (.ref b25), .val (.int (1 : Int32)), .val (.ref b3), .val (.int (1 : Int32)), .val (.ref b108), .val (.int (own_max (own_s1 p3) (own_s2 p3))), .val (.long (own_U (p1.toInt64) (own_s1 p3) (p2.toInt64) (own_s2 p3))), .second, .val (.long (((own_U (p1.toInt64) (own_s1 p3) (p2.toInt64) (own_s2 p3)) / (own_pw ((own_max (own_s1 p3) (own_s2 p3)) - (p4 &&& (3 : Int32))))) + (1 : Int64))), .second, .val (.int (p4 &&& (3 : Int32))), .val (.int (p4 &&& (3 : Int32))), .val (.long (own_pw ((own_max (own_s1 p3) (own_s2 p3)) - (p4 &&& (3 : Int32))))), .second, .val (.long (((own_U (p1.toInt64) (own_s1 p3) (p2.toInt64) (own_s2 p3)) / (own_pw ((own_max (own_s1 p3) (own_s2 p3)) - (p4 &&& (3 : Int32))))) + (1 : Int64))), .second, .val (.long (own_rm (own_U (p1.toInt64) (own_s1 p3) (p2.toInt64) (own_s2 p3)) (own_pw ((own_max (own_s1 p3) (own_s2 p3)) - (p4 &&& (3 : Int32)))))), .second] [(.ref b131), (.ref b108)])) rfl (by rw [hml]; rfl) (Steps.refl _) (argsL := [(.ref b131)]) (rest := []) (lenOf pd_28 rfl) rfl (by show 2 * 0 + _ ≤ _; exact Nat.le_of_eq rfl) (hb hby at_288) (fun _ _ => ⟨rfl, rfl, (by decide : 12 + 0 ≤ _), (by decide : 62 + 0 ≤ _)⟩)
            dsimp only [Pt.U, Pt.locs, Pt.cells, Pt.slots] at X145 l145 y145 z145 st145 hQ145
            subst y145 z145
            obtain ⟨rfl, N145q, e145⟩ := hQ145
            have N145 : Fr n0 L145 := by rw [l145]; exact Fr.app N131 N145q
            obtain ⟨fs, hr, hrun, hended, hW, hsame⟩ := X145.leave (v := some (.int (1 : Int32))) (fun h => by rw [Bd.returns] at h; cases h) Bd.notSynchronized
            refine ⟨_, _, pre0 _ ?_, hrun, hended, _, _, rfl, ?_, ⟨_, rfl⟩, hW, hsame.mono (by decide) (by decide)⟩
            · refine pk130 _ ?_
              show Steps p.tables e below (T128.setTop (mkF m 258 #[.val (.int p1), .val (.int p2), .val (.int p3), .val (.int p4), .val (.int (own_s1 p3)), .val (.int (own_s2 p3)), .val (.ref b2), .val (.ref b3), .val (.ref b5), .val (.ref b7), .val (.ref b14), .val (.ref b25), .val (.int (1 : Int32)), .val (.ref b3), .val (.int (1 : Int32)), .val (.ref b108), .val (.int (own_max (own_s1 p3) (own_s2 p3))), .val (.long (own_U (p1.toInt64) (own_s1 p3) (p2.toInt64) (own_s2 p3))), .second, .val (.long (own_U (p1.toInt64) (own_s1 p3) (p2.toInt64) (own_s2 p3))), .second, .val (.int (own_max (own_s1 p3) (own_s2 p3))), .val (.int (p4 &&& (3 : Int32))), .val (.long (own_pw ((own_max (own_s1 p3) (own_s2 p3)) - (p4 &&& (3 : Int32))))), .second, .val (.long ((own_U (p1.toInt64) (own_s1 p3) (p2.toInt64) (own_s2 p3)) / (own_pw ((own_max (own_s1 p3) (own_s2 p3)) - (p4 &&& (3 : Int32)))))), .second, .val (.long (own_rm (own_U (p1.toInt64) (own_s1 p3) (p2.toInt64) (own_s2 p3)) (own_pw ((own_max (own_s1 p3) (own_s2 p3)) - (p4 &&& (3 : Int32)))))), .second] [(.int (lcmpW (own_U (p1.toInt64) (own_s1 p3) (p2.toInt64) (own_s2 p3)) (0 : Int64))), (.long ((own_U (p1.toInt64) (own_s1 p3) (p2.toInt64) (own_s2 p3)) / (own_pw ((own_max (own_s1 p3) (own_s2 p3)) - (p4 &&& (3 : Int32))))))])) _
              refine XS.ifYes X128.here hx rfl (pc0 := 258) (pc' := 267) rfl (hb hby at_258) rfl ((if0 _ _).trans (flt (hq4 : ¬ ((lcmpW (own_U (p1.toInt64) (own_s1 p3) (p2.toInt64) (own_s2 p3)) (0 : Int64)) < (0 : Int32)))).2.1) (by decide) (by decide) ?_
              refine XS.lconst X128.here hx rfl (hb hby at_267) ?_
              refine XS.ladd X128.here hx rfl (hb hby at_268) rfl ?_
              refine XS.lstore X128.here hx rfl (hb hby at_269) rfl (l' := #[.val (.int p1), .val (.int p2), .val (.int p3), .val (.int p4), .val (.int (own_s1 p3)), .val (.int (own_s2 p3)), .val (.ref b2), .val (.ref b3), .val (.ref b5), .val (.ref b7), .val (.ref b14), .val (.ref b25), .val (.int (1 : Int32)), .val (.ref b3), .val (.int (1 : Int32)), .val (.ref b108), .val (.int (own_max (own_s1 p3) (own_s2 p3))), .val (.long (own_U (p1.toInt64) (own_s1 p3) (p2.toInt64) (own_s2 p3))), .second, .val (.long (own_U (p1.toInt64) (own_s1 p3) (p2.toInt64) (own_s2 p3))), .second, .val (.int (own_max (own_s1 p3) (own_s2 p3))), .val (.int (p4 &&& (3 : Int32))), .val (.long (own_pw ((own_max (own_s1 p3) (own_s2 p3)) - (p4 &&& (3 : Int32))))), .second, .val (.long (((own_U (p1.toInt64) (own_s1 p3) (p2.toInt64) (own_s2 p3)) / (own_pw ((own_max (own_s1 p3) (own_s2 p3)) - (p4 &&& (3 : Int32))))) + (1 : Int64))), .second, .val (.long (own_rm (own_U (p1.toInt64) (own_s1 p3) (p2.toInt64) (own_s2 p3)) (own_pw ((own_max (own_s1 p3) (own_s2 p3)) - (p4 &&& (3 : Int32)))))), .second]) rfl ?_
              refine XS.lload X128.here hx rfl (hb hby at_271) rfl ?_
              refine XS.lstore X128.here hx rfl (hb hby at_273) rfl (l' := #[.val (.int p1), .val (.int p2), .val (.int p3), .val (.int p4), .val (.int (own_s1 p3)), .val (.int (own_s2 p3)), .val (.ref b2), .val (.ref b3), .val (.ref b5), .val (.ref b7), .val (.ref b14), .val (.ref b25), .val (.int (1 : Int32)), .val (.ref b3), .val (.int (1 : Int32)), .val (.ref b108), .val (.int (own_max (own_s1 p3) (own_s2 p3))), .val (.long (own_U (p1.toInt64) (own_s1 p3) (p2.toInt64) (own_s2 p3))), .second, .val (.long (((own_U (p1.toInt64) (own_s1 p3) (p2.toInt64) (own_s2 p3)) / (own_pw ((own_max (own_s1 p3) (own_s2 p3)) - (p4 &&& (3 : Int32))))) + (1 : Int64))), .second, .val (.int (own_max (own_s1 p3) (own_s2 p3))), .val (.int (p4 &&& (3 : Int32))), .val (.long (own_pw ((own_max (own_s1 p3) (own_s2 p3)) - (p4 &&& (3 : Int32))))), .second, .val (.long (((own_U (p1.toInt64) (own_s1 p3) (p2.toInt64) (own_s2 p3)) / (own_pw ((own_max (own_s1 p3) (own_s2 p3)) - (p4 &&& (3 : Int32))))) + (1 : Int64))), .second, .val (.long (own_rm (own_U (p1.toInt64) (own_s1 p3) (p2.toInt64) (own_s2 p3)) (own_pw ((own_max (own_s1 p3) (own_s2 p3)) - (p4 &&& (3 : Int32)))))), .second]) rfl ?_
              refine XS.iload X128.here hx rfl (hb hby at_275) rfl ?_
              refine XS.istore X128.here hx rfl (hb hby at_277) rfl (l' := #[.val (.int p1), .val (.int p2), .val (.int p3), .val (.int p4), .val (.int (own_s1 p3)), .val (.int (own_s2 p3)), .val (.ref b2), .val (.ref b3), .val (.ref b5), .val (.ref b7), .val (.ref b14), .val (.ref b25), .val (.int (1 : Int32)), .val (.ref b3), .val (.int (1 : Int32)), .val (.ref b108), .val (.int (own_max (own_s1 p3) (own_s2 p3))), .val (.long (own_U (p1.toInt64) (own_s1 p3) (p2.toInt64) (own_s2 p3))), .second, .val (.long (((own_U (p1.toInt64) (own_s1 p3) (p2.toInt64) (own_s2 p3)) / (own_pw ((own_max (own_s1 p3) (own_s2 p3)) - (p4 &&& (3 : Int32))))) + (1 : Int64))), .second, .val (.int (p4 &&& (3 : Int32))), .val (.int (p4 &&& (3 : Int32))), .val (.long (own_pw ((own_max (own_s1 p3) (own_s2 p3)) - (p4 &&& (3 : Int32))))), .second, .val (.long (((own_U (p1.toInt64) (own_s1 p3) (p2.toInt64) (own_s2 p3)) / (own_pw ((own_max (own_s1 p3) (own_s2 p3)) - (p4 &&& (3 : Int32))))) + (1 : Int64))), .second, .val (.long (own_rm (own_U (p1.toInt64) (own_s1 p3) (p2.toInt64) (own_s2 p3)) (own_pw ((own_max (own_s1 p3) (own_s2 p3)) - (p4 &&& (3 : Int32)))))), .second]) rfl ?_
              refine XS.aload X128.here hx rfl (hb hby at_279) rfl rfl ?_
              refine XS.lload X128.here hx rfl (hb hby at_281) rfl ?_
              refine XS.iload X128.here hx rfl (hb hby at_283) rfl ?_
              refine st131 _ ?_
              refine st145.trans ?_
              refine XS.istore X145.here hx rfl (hb hby at_291) rfl (l' := #[.val (.int p1), .val (.int p2), .val (.int p3), .val (.int p4), .val (.int (own_s1 p3)), .val (.int (own_s2 p3)), .val (.ref b2), .val (.ref b3), .val (.ref b5), .val (.ref b7), .val (.ref b14), .val (.ref b25), .val (.int (1 : Int32)), .val (.ref b3), .val (.int (1 : Int32)), .val (.ref b108), .val (.int (own_max (own_s1 p3) (own_s2 p3))), .val (.long (own_U (p1.toInt64) (own_s1 p3) (p2.toInt64) (own_s2 p3))), .second, .val (.long (((own_U (p1.toInt64) (own_s1 p3) (p2.toInt64) (own_s2 p3)) / (own_pw ((own_max (own_s1 p3) (own_s2 p3)) - (p4 &&& (3 : Int32))))) + (1 : Int64))), .second, .val (.int (p4 &&& (3 : Int32))), .val (.int (1 : Int32)), .val (.long (own_pw ((own_max (own_s1 p3) (own_s2 p3)) - (p4 &&& (3 : Int32))))), .second, .val (.long (((own_U (p1.toInt64) (own_s1 p3) (p2.toInt64) (own_s2 p3)) / (own_pw ((own_max (own_s1 p3) (own_s2 p3)) - (p4 &&& (3 : Int32))))) + (1 : Int64))), .second, .val (.long (own_rm (own_U (p1.toInt64) (own_s1 p3) (p2.toInt64) (own_s2 p3)) (own_pw ((own_max (own_s1 p3) (own_s2 p3)) - (p4 &&& (3 : Int32)))))), .second]) rfl ?_
              refine XS.iload X145.here hx rfl (hb hby at_293) rfl ?_
              refine XS.ifNo X145.here hx rfl (hb hby at_295) rfl ((if0 _ _).trans (feq (by decide : ¬ ((1 : Int32) = (0 : Int32)))).1) ?_
              refine XS.iload X145.here hx rfl (hb hby at_298) rfl ?_
              refine XS.ifNo X145.here hx rfl (hb hby at_300) rfl ((if0 _ _).trans (feq (by decide : ¬ ((1 : Int32) = (0 : Int32)))).1) ?_
              refine XS.iload X145.here hx rfl (hb hby at_303) rfl ?_
              refine XS.ifNo X145.here hx rfl (hb hby at_305) rfl ((if0 _ _).trans (feq (by decide : ¬ ((1 : Int32) = (0 : Int32)))).1) ?_
              refine XS.iconst X145.here hx rfl (hb hby at_308) ?_
              refine XS.goto X145.here hx rfl (pc0 := 309) (pc' := 313) rfl (hb hby at_309) (by decide) (by decide) ?_
              show Steps p.tables e below (T145.setTop (mkF m 313 #[.val (.int p1), .val (.int p2), .val (.int p3), .val (.int p4), .val (.int (own_s1 p3)), .val (.int (own_s2 p3)), .val (.ref b2), .val (.ref b3), .val (.ref b5), .val (.ref b7), .val (.ref b14), .val (.ref b25), .val (.int (1 : Int32)), .val (.ref b3), .val (.int (1 : Int32)), .val (.ref b108), .val (.int (own_max (own_s1 p3) (own_s2 p3))), .val (.long (own_U (p1.toInt64) (own_s1 p3) (p2.toInt64) (own_s2 p3))), .second, .val (.long (((own_U (p1.toInt64) (own_s1 p3) (p2.toInt64) (own_s2 p3)) / (own_pw ((own_max (own_s1 p3) (own_s2 p3)) - (p4 &&& (3 : Int32))))) + (1 : Int64))), .second, .val (.int (p4 &&& (3 : Int32))), .val (.int (1 : Int32)), .val (.long (own_pw ((own_max (own_s1 p3) (own_s2 p3)) - (p4 &&& (3 : Int32))))), .second, .val (.long (((own_U (p1.toInt64) (own_s1 p3) (p2.toInt64) (own_s2 p3)) / (own_pw ((own_max (own_s1 p3) (own_s2 p3)) - (p4 &&& (3 : Int32))))) + (1 : Int64))), .second, .val (.long (own_rm (own_U (p1.toInt64) (own_s1 p3) (p2.toInt64) (own_s2 p3)) (own_pw ((own_max (own_s1 p3) (own_s2 p3)) - (p4 &&& (3 : Int32)))))), .second] [(.int (1 : Int32))])) _
              exact retN X145 hx (t := .boolean) Bd.returns (by simp) (hb hby at_313) hr
            · show Qrm0 Z p1 p2 p3 p4  h0 n0 _ T145.heap _
              rw [e145]
              exact ⟨rfl, N145⟩
    · obtain ⟨_, _, ⟨T124, L124, k124, n124⟩, -, X124, ⟨Lc124, hQ124, l124, y124, z124⟩, st124⟩ := Jvm.LawKit.callS X119 hx (y := m_0) hown (mvT hZ (own_w hw 7 rfl)) (mvT hZ (own_w hw 8 rfl)) (mvT hZ (own_w hw 9 rfl)) (mvT hZ (own_w hw 10 rfl)) (by decide) (backOf (W := 1) (rmV2 l Z a0 hw [] (own_U (p1.toInt64) (own_s1 p3) (p2.toInt64) (own_s2 p3)) (own_max (own_s1 p3) (own_s2 p3))  T114.heap n0 Z115 J ((((((((((((O0.keep K3 all0).keep K5 all0).ext E7).keep K12 (allS g_b7 all0)).ext E14).keep K23 (allS g_b14 all0)).keep K26 all0).keep K35 (allS g_b14 all0)).keep K38 all0).keep K108 (allS g_b14 all0)).keep K112 all0).keep K114 all0) (own_hm hU) (own_16 hM)) hZ (own_w hw 10 rfl) (own_w hw 9 rfl) (by decide) (by decide)) (g := (mkF m 285 #[.val (.int p1), .val (.int p2), .val (.int p3), .val (.int p4), .val (.int (own_s1 p3)), .val (.int (own_s2 p3)), .val (.ref b2), .val (.ref b3), .val (.ref b5), .val (.ref b7), .val (.ref b14), .val (.ref b25), .val (.int (1 : Int32)), .val (.ref b3), .val (.int (1 : Int32)), .val (.ref b108), .val (.int (own_max (own_s1 p3) (own_s2 p3))), .val (.long (own_U (p1.toInt64) (own_s1 p3) (p2.toInt64) (own_s2 p3))), .second, .val (.long (own_U (p1.toInt64) (own_s1 p3) (p2.toInt64) (own_s2 p3))), .second, .val (.int (own_max (own_s1 p3) (own_s2 p3))), .unset, .unset, .unset, .unset, .unset, .unset, .unset] [(.int (own_max (own_s1 p3) (own_s2 p3))), (.long (own_U (p1.toInt64) (own_s1 p3) (p2.toInt64) (own_s2 p3))), (.ref b108)])) rfl (by rw [hml]; rfl) (argsL := [(.long (own_U (p1.toInt64) (own_s1 p3) (p2.toInt64) (own_s2 p3))), (.int (own_max (own_s1 p3) (own_s2 p3)))]) (rest := [(.ref b108)]) (lenOf pd_10 rfl) rfl (by show 2 * 0 + _ ≤ _; exact Nat.le_of_eq rfl) (hb hby at_285) (fun _ _ => ⟨rfl, e119, (by decide : 10 + 1 ≤ _), (by decide : 49 + 5 ≤ _)⟩)
      dsimp only [Pt.U, Pt.locs, Pt.cells, Pt.slots] at X124 l124 y124 z124 st124 hQ124
      subst y124 z124
      obtain ⟨b124, rfl, N124q, K124, q124, B124, P124⟩ := hQ124
      have N124 : Fr n0 L124 := by rw [l124]; exact Fr.app N119 N124q
      have Z125 : n0 ≤ T124.heap.size := Nat.le_trans Z115 K124.1
      have f126 := B108.1.keep K112
      have f127 := f126.keep K114
      have f128 := f127.keep K124
      have f129 := B108.2.1.keep K112 nin0
      have f130 := f129.keep K114 nin0
      have f131 := f130.keep K124 nin0
      have f132 := B108.2.2.keep K112 nin0
      have f133 := f132.keep K114 nin0
      have f134 := f133.keep K124 nin0
      have Bq : own_BD Z T124.heap b108 (own_max (own_s1 p3) (own_s2 p3)) (own_U (p1.toInt64) (own_s1 p3) (p2.toInt64) (own_s2 p3)) := by have u := (⟨f128, f131, f134⟩ : own_BD Z _ _ _ _); rw [own_os, own_oz, own_cs, own_cz, if_neg hq1, if_neg hq1] at u; exact u
      obtain ⟨cq135, kq135, q135a, q135b, q135c⟩ := isOf hZ rfl f128
      obtain ⟨_, _, ⟨T135, L135, k135, n135⟩, -, X135, ⟨Lc135, hQ135, l135, y135, z135⟩, st135⟩ := X124.virtualBack hx (y := m_1) (z := m_1) hown (mvT hZ (own_w hw 69 rfl)) (mvT hZ (own_w hw 70 rfl)) (notFace_of_selects (args := #[]) (mvT hZ (own_w hw 72 rfl))) (mvT hZ (own_w hw 72 rfl)) (mvT hZ (own_w hw 71 rfl)) (by decide) (backOf (W := 0) (rmEq l Z a0 hw [] b108 b124 (own_max (own_s1 p3) (own_s2 p3)) (own_U (p1.toInt64) (own_s1 p3) (p2.toInt64) (own_s2 p3)) T124.heap n0 Z125 Bq ⟨B124.1, B124.2.1, B124.2.2⟩ (own_hm hU)) hZ (own_w hw 73 rfl) (own_w hw 9 rfl) (by decide) (by decide)) q135a q135c (g := (mkF m 288 #[.val (.int p1), .val (.int p2), .val (.int p3), .val (.int p4), .val (.int (own_s1 p3)), .val (.int (own_s2 p3)), .val (.ref b2), .val (.ref b3), .val (.ref b5), .val (.ref b7), .val (.ref b14), .val (.ref b25), .val (.int (1 : Int32)), .val (.ref b3), .val (.int (1 : Int32)), .val (.ref b108), .val (.int (own_max (own_s1 p3) (own_s2 p3))), .val (.long (own_U (p1.toInt64) (own_s1 p3) (p2.toInt64) (own_s2 p3))), .second, .val (.long (own_U (p1.toInt64) (own_s1 p3) (p2.toInt64) (own_s2 p3))), .second, .val (.int (own_max (own_s1 p3) (own_s2 p3))), .unset, .unset, .unset, .unset, .unset, .unset, .unset] [(.ref b124), (.ref b108)])) rfl (by rw [hml]; rfl) (Steps.refl _) (argsL := [(.ref b124)]) (rest := []) (lenOf pd_28 rfl) rfl (by show 2 * 0 + _ ≤ _; exact Nat.le_of_eq rfl) (hb hby at_288) (fun _ _ => ⟨rfl, rfl, (by decide : 11 + 0 ≤ _), (by decide : 54 + 0 ≤ _)⟩)
      dsimp only [Pt.U, Pt.locs, Pt.cells, Pt.slots] at X135 l135 y135 z135 st135 hQ135
      subst y135 z135
      obtain ⟨rfl, N135q, e135⟩ := hQ135
      have N135 : Fr n0 L135 := by rw [l135]; exact Fr.app N124 N135q
      obtain ⟨fs, hr, hrun, hended, hW, hsame⟩ := X135.leave (v := some (.int (1 : Int32))) (fun h => by rw [Bd.returns] at h; cases h) Bd.notSynchronized
      refine ⟨_, _, pre0 _ ?_, hrun, hended, _, _, rfl, ?_, ⟨_, rfl⟩, hW, hsame.mono (by decide) (by decide)⟩
      · refine pk123 _ ?_
        show Steps p.tables e below (T119.setTop (mkF m 196 #[.val (.int p1), .val (.int p2), .val (.int p3), .val (.int p4), .val (.int (own_s1 p3)), .val (.int (own_s2 p3)), .val (.ref b2), .val (.ref b3), .val (.ref b5), .val (.ref b7), .val (.ref b14), .val (.ref b25), .val (.int (1 : Int32)), .val (.ref b3), .val (.int (1 : Int32)), .val (.ref b108), .val (.int (own_max (own_s1 p3) (own_s2 p3))), .val (.long (own_U (p1.toInt64) (own_s1 p3) (p2.toInt64) (own_s2 p3))), .second, .val (.long (own_U (p1.toInt64) (own_s1 p3) (p2.toInt64) (own_s2 p3))), .second, .val (.int (own_max (own_s1 p3) (own_s2 p3))), .unset, .unset, .unset, .unset, .unset, .unset, .unset] [(.int (p4 &&& (3 : Int32))), (.int (own_max (own_s1 p3) (own_s2 p3)))])) _
        refine XS.icmpYes X119.here hx rfl (pc0 := 196) (pc' := 279) rfl (hb hby at_196) rfl (flt (hq1 : ¬ ((p4 &&& (3 : Int32)) < (own_max (own_s1 p3) (own_s2 p3))))).2.2.2 (by decide) (by decide) ?_
        refine XS.aload X119.here hx rfl (hb hby at_279) rfl rfl ?_
        refine XS.lload X119.here hx rfl (hb hby at_281) rfl ?_
        refine XS.iload X119.here hx rfl (hb hby at_283) rfl ?_
        refine st124 _ ?_
        refine st135.trans ?_
        refine XS.istore X135.here hx rfl (hb hby at_291) rfl (l' := #[.val (.int p1), .val (.int p2), .val (.int p3), .val (.int p4), .val (.int (own_s1 p3)), .val (.int (own_s2 p3)), .val (.ref b2), .val (.ref b3), .val (.ref b5), .val (.ref b7), .val (.ref b14), .val (.ref b25), .val (.int (1 : Int32)), .val (.ref b3), .val (.int (1 : Int32)), .val (.ref b108), .val (.int (own_max (own_s1 p3) (own_s2 p3))), .val (.long (own_U (p1.toInt64) (own_s1 p3) (p2.toInt64) (own_s2 p3))), .second, .val (.long (own_U (p1.toInt64) (own_s1 p3) (p2.toInt64) (own_s2 p3))), .second, .val (.int (own_max (own_s1 p3) (own_s2 p3))), .val (.int (1 : Int32)), .unset, .unset, .unset, .unset, .unset, .unset]) rfl ?_
        refine XS.iload X135.here hx rfl (hb hby at_293) rfl ?_
        refine XS.ifNo X135.here hx rfl (hb hby at_295) rfl ((if0 _ _).trans (feq (by decide : ¬ ((1 : Int32) = (0 : Int32)))).1) ?_
        refine XS.iload X135.here hx rfl (hb hby at_298) rfl ?_
        refine XS.ifNo X135.here hx rfl (hb hby at_300) rfl ((if0 _ _).trans (feq (by decide : ¬ ((1 : Int32) = (0 : Int32)))).1) ?_
        refine XS.iload X135.here hx rfl (hb hby at_303) rfl ?_
        refine XS.ifNo X135.here hx rfl (hb hby at_305) rfl ((if0 _ _).trans (feq (by decide : ¬ ((1 : Int32) = (0 : Int32)))).1) ?_
        refine XS.iconst X135.here hx rfl (hb hby at_308) ?_
        refine XS.goto X135.here hx rfl (pc0 := 309) (pc' := 313) rfl (hb hby at_309) (by decide) (by decide) ?_
        show Steps p.tables e below (T135.setTop (mkF m 313 #[.val (.int p1), .val (.int p2), .val (.int p3), .val (.int p4), .val (.int (own_s1 p3)), .val (.int (own_s2 p3)), .val (.ref b2), .val (.ref b3), .val (.ref b5), .val (.ref b7), .val (.ref b14), .val (.ref b25), .val (.int (1 : Int32)), .val (.ref b3), .val (.int (1 : Int32)), .val (.ref b108), .val (.int (own_max (own_s1 p3) (own_s2 p3))), .val (.long (own_U (p1.toInt64) (own_s1 p3) (p2.toInt64) (own_s2 p3))), .second, .val (.long (own_U (p1.toInt64) (own_s1 p3) (p2.toInt64) (own_s2 p3))), .second, .val (.int (own_max (own_s1 p3) (own_s2 p3))), .val (.int (1 : Int32)), .unset, .unset, .unset, .unset, .unset, .unset] [(.int (1 : Int32))])) _
        exact retN X135 hx (t := .boolean) Bd.returns (by simp) (hb hby at_313) hr
      · show Qrm0 Z p1 p2 p3 p4  h0 n0 _ T135.heap _
        rw [e135]
        exact ⟨rfl, N135⟩
  · obtain ⟨_, _, ⟨T2, L2, k2, n2⟩, -, X2, ⟨Lc2, hQ2, l2, y2, z2⟩, st2⟩ := Jvm.LawKit.callS X0 hx (y := m_0) hown (mvT hZ (own_w hw 7 rfl)) (mvT hZ (own_w hw 8 rfl)) (mvT hZ (own_w hw 9 rfl)) (mvT hZ (own_w hw 10 rfl)) (by decide) (backOf (W := 0) (rmV2 l Z a0 hw [] (p1.toInt64) (own_s1 p3)  h0 n0 Z0 J O0 (own_hm hx1.b.h) (own_16 hs1)) hZ (own_w hw 10 rfl) (own_w hw 9 rfl) (by decide) (by decide)) (g := (mkF m 40 #[.val (.int p1), .val (.int p2), .val (.int p3), .val (.int p4), .val (.int (own_s1 p3)), .val (.int (own_s2 p3)), .val .null, .unset, .unset, .unset, .unset, .unset, .unset, .unset, .unset, .unset, .unset, .unset, .unset, .unset, .unset, .unset, .unset, .unset, .unset, .unset, .unset, .unset, .unset] [(.int (own_s1 p3)), (.long (p1.toInt64))])) rfl (by rw [hml]; rfl) (argsL := [(.long (p1.toInt64)), (.int (own_s1 p3))]) (rest := []) (lenOf pd_10 rfl) rfl (by show 2 * 0 + _ ≤ _; exact Nat.le_of_eq rfl) (hb hby at_40) (fun _ _ => ⟨rfl, e0, (by decide : 0 + 1 ≤ _), (by decide : 0 + 5 ≤ _)⟩)
    dsimp only [Pt.U, Pt.locs, Pt.cells, Pt.slots] at X2 l2 y2 z2 st2 hQ2
    subst y2 z2
    obtain ⟨b2, rfl, N2q, K2, q2, B2, P2⟩ := hQ2
    have N2 : Fr n0 L2 := by rw [l2]; exact Fr.app N0 N2q
    have Z3 : n0 ≤ T2.heap.size := Nat.le_trans Z0 K2.1
    obtain ⟨_, _, ⟨T4, L4, k4, n4⟩, -, X4, ⟨Lc4, hQ4, l4, y4, z4⟩, st4⟩ := Jvm.LawKit.callS X2 hx (y := m_0) hown (mvT hZ (own_w hw 7 rfl)) (mvT hZ (own_w hw 8 rfl)) (mvT hZ (own_w hw 9 rfl)) (mvT hZ (own_w hw 10 rfl)) (by decide) (backOf (W := 0) (rmV2 l Z a0 hw [] (p2.toInt64) (own_s2 p3)  T2.heap n0 Z3 J (O0.keep K2 all0) (own_hm hx2.b.h) (own_16 hs2)) hZ (own_w hw 10 rfl) (own_w hw 9 rfl) (by decide) (by decide)) (g := (mkF m 49 #[.val (.int p1), .val (.int p2), .val (.int p3), .val (.int p4), .val (.int (own_s1 p3)), .val (.int (own_s2 p3)), .val .null, .val (.ref b2), .unset, .unset, .unset, .unset, .unset, .unset, .unset, .unset, .unset, .unset, .unset, .unset, .unset, .unset, .unset, .unset, .unset, .unset, .unset, .unset, .unset] [(.int (own_s2 p3)), (.long (p2.toInt64))])) rfl (by rw [hml]; rfl) (argsL := [(.long (p2.toInt64)), (.int (own_s2 p3))]) (rest := []) (lenOf pd_10 rfl) rfl (by show 2 * 0 + _ ≤ _; exact Nat.le_of_eq rfl) (hb hby at_49) (fun _ _ => ⟨rfl, rfl, (by decide : 1 + 1 ≤ _), (by decide : 5 + 5 ≤ _)⟩)
    dsimp only [Pt.U, Pt.locs, Pt.cells, Pt.slots] at X4 l4 y4 z4 st4 hQ4
    subst y4 z4
    obtain ⟨b4, rfl, N4q, K4, q4, B4, P4⟩ := hQ4
    have N4 : Fr n0 L4 := by rw [l4]; exact Fr.app N2 N4q
    have Z5 : n0 ≤ T4.heap.size := Nat.le_trans Z3 K4.1
    obtain ⟨T6, h6, X6, e6, E6, A6, D6, -, st6⟩ := newO X4 hx hZ hown (own_w hw 39 rfl) (own_w hw 40 rfl) (own_w hw 41 rfl) rfl (g := (mkF m 54 #[.val (.int p1), .val (.int p2), .val (.int p3), .val (.int p4), .val (.int (own_s1 p3)), .val (.int (own_s2 p3)), .val .null, .val (.ref b2), .val (.ref b4), .unset, .unset, .unset, .unset, .unset, .unset, .unset, .unset, .unset, .unset, .unset, .unset, .unset, .unset, .unset, .unset, .unset, .unset, .unset, .unset] [])) rfl (hb hby at_54) (by decide) (by decide)
    obtain ⟨b6, gz6⟩ : ∃ z, z = T4.heap.size := ⟨_, rfl⟩
    rw [← gz6] at A6 D6 st6
    have f7 := B2.1.keep K4
    have ne_b2_b6 : b2 ≠ b6 := Nat.ne_of_lt (Nat.lt_of_lt_of_le f7.lt (Nat.le_of_eq gz6.symm))
    have ne_b4_b6 : b4 ≠ b6 := Nat.ne_of_lt (Nat.lt_of_lt_of_le B4.1.lt (Nat.le_of_eq gz6.symm))
    have g_b6 : n0 ≤ b6 := Nat.le_trans Z5 (Nat.le_of_eq gz6.symm)
    have sz_b6 : h0.size ≤ b6 := Nat.le_trans (((Keep.refl h0 []).trans K2 all0).trans K4 all0).1 (Nat.le_of_eq gz6.symm)
    have Z8 : n0 ≤ h6.size := Nat.le_trans Z5 E6.1
    have F_places_b6 : Fld Z h6 b6 "com/example/tipple/tipple/Arithmetic" "places" "Ljava/lang/Integer;" .null := D6 (Or.inr (own_w hw 47 rfl)) (ty := (.object "java/lang/Integer")) (by decide)
    obtain ⟨_, _, ⟨T9, L9, k9, n9⟩, -, X9, ⟨Lc9, hQ9, l9, y9, z9⟩, st9⟩ := X6.specialBack hx (y := m_12) rfl hown (mvT hZ (own_w hw 42 rfl)) (mvT hZ (own_w hw 43 rfl)) (mvT hZ (own_w hw 44 rfl)) (by decide) (backOf (W := 1) (rmArN l Z a0 hw [] b6  h6 n0 Z8 A6 g_b6 F_places_b6) hZ (own_w hw 44 rfl) (own_w hw 41 rfl) (by decide) (by decide)) (g := (mkF m 60 #[.val (.int p1), .val (.int p2), .val (.int p3), .val (.int p4), .val (.int (own_s1 p3)), .val (.int (own_s2 p3)), .val .null, .val (.ref b2), .val (.ref b4), .unset, .unset, .unset, .unset, .unset, .unset, .unset, .unset, .unset, .unset, .unset, .unset, .unset, .unset, .unset, .unset, .unset, .unset, .unset, .unset] [.null, (.ref b6), (.ref b6)])) rfl (by rw [hml]; rfl) (Steps.refl _) (a := b6) (argsL := [.null]) (rest := [(.ref b6)]) (lenOf pd_24 rfl) rfl (by show 2 * 0 + _ ≤ _; exact Nat.le_of_eq rfl) (hb hby at_60) (fun _ _ => ⟨rfl, e6, (by decide : 3 + 0 ≤ _), (by decide : 11 + 0 ≤ _)⟩)
    dsimp only [Pt.U, Pt.locs, Pt.cells, Pt.slots] at X9 l9 y9 z9 st9 hQ9
    subst y9 z9
    obtain ⟨rfl, N9q, K9, Ea9, Fa9⟩ := hQ9
    have N9 : Fr n0 L9 := by rw [l9]; exact Fr.app N4 N9q
    have Z10 : n0 ≤ T9.heap.size := Nat.le_trans Z8 K9.1
    obtain ⟨T11, h11, X11, e11, E11, A11, D11, -, st11⟩ := newO X9 hx hZ hown (own_w hw 48 rfl) (own_w hw 49 rfl) (own_w hw 50 rfl) rfl (g := (mkF m 65 #[.val (.int p1), .val (.int p2), .val (.int p3), .val (.int p4), .val (.int (own_s1 p3)), .val (.int (own_s2 p3)), .val .null, .val (.ref b2), .val (.ref b4), .val (.ref b6), .unset, .unset, .unset, .unset, .unset, .unset, .unset, .unset, .unset, .unset, .unset, .unset, .unset, .unset, .unset, .unset, .unset, .unset, .unset] [])) rfl (hb hby at_65) (by decide) (by decide)
    obtain ⟨b11, gz11⟩ : ∃ z, z = T9.heap.size := ⟨_, rfl⟩
    rw [← gz11] at A11 D11 st11
    have f12 := f7.ext E6
    have f13 := f12.keep K9
    have ne_b2_b11 : b2 ≠ b11 := Nat.ne_of_lt (Nat.lt_of_lt_of_le f13.lt (Nat.le_of_eq gz11.symm))
    have f14 := B4.1.ext E6
    have f15 := f14.keep K9
    have ne_b4_b11 : b4 ≠ b11 := Nat.ne_of_lt (Nat.lt_of_lt_of_le f15.lt (Nat.le_of_eq gz11.symm))
    have ne_b6_b11 : b6 ≠ b11 := Nat.ne_of_lt (Nat.lt_of_lt_of_le Ea9.lt (Nat.le_of_eq gz11.symm))
    have g_b11 : n0 ≤ b11 := Nat.le_trans Z10 (Nat.le_of_eq gz11.symm)
    have sz_b11 : h0.size ≤ b11 := Nat.le_trans (((((Keep.refl h0 []).trans K2 all0).trans K4 all0).ext E6).trans K9 (allS (Or.inr sz_b6) all0)).1 (Nat.le_of_eq gz11.symm)
    have Z16 : n0 ≤ h11.size := Nat.le_trans Z10 E11.1
    have F_this_0_b11 : Fld Z h11 b11 "com/example/tipple/tipple/Arithmetic$RunningSum" "this$0" "Lcom/example/tipple/tipple/Arithmetic;" .null := D11 (Or.inr (own_w hw 59 rfl)) (ty := (.object "com/example/tipple/tipple/Arithmetic")) (by decide)
    have F_value_b11 : Fld Z h11 b11 "com/example/tipple/tipple/Arithmetic$RunningSum" "value" "Ljava/math/BigDecimal;" .null := D11 (Or.inl (own_w hw 67 rfl)) (ty := (.object "java/math/BigDecimal")) (by decide)
    obtain ⟨_, _, ⟨T17, L17, k17, n17⟩, -, X17, ⟨Lc17, hQ17, l17, y17, z17⟩, st17⟩ := Jvm.LawKit.callS X11 hx (y := m_24) hown (mvT hZ (own_w hw 51 rfl)) (mvT hZ (own_w hw 52 rfl)) (mvT hZ (own_w hw 53 rfl)) (mvT hZ (own_w hw 54 rfl)) (by decide) (backOf (W := 3) (rmNn l Z a0 hw [] b6  h11 n0 Z16 ) hZ (own_w hw 54 rfl) (own_w hw 53 rfl) (by decide) (by decide)) (g := (mkF m 72 #[.val (.int p1), .val (.int p2), .val (.int p3), .val (.int p4), .val (.int (own_s1 p3)), .val (.int (own_s2 p3)), .val .null, .val (.ref b2), .val (.ref b4), .val (.ref b6), .unset, .unset, .unset, .unset, .unset, .unset, .unset, .unset, .unset, .unset, .unset, .unset, .unset, .unset, .unset, .unset, .unset, .unset, .unset] [(.ref b6), (.ref b6), (.ref b11), (.ref b11)])) rfl (by rw [hml]; rfl) (argsL := [(.ref b6)]) (rest := [(.ref b6), (.ref b11), (.ref b11)]) (lenOf pd_25 rfl) rfl (by show 2 * 0 + _ ≤ _; exact Nat.le_of_eq rfl) (hb hby at_72) (fun _ _ => ⟨rfl, e11, (by decide : 4 + 0 ≤ _), (by decide : 13 + 0 ≤ _)⟩)
    dsimp only [Pt.U, Pt.locs, Pt.cells, Pt.slots] at X17 l17 y17 z17 st17 hQ17
    subst y17 z17
    obtain ⟨rfl, N17q, e17⟩ := hQ17
    have N17 : Fr n0 L17 := by rw [l17]; exact Fr.app N9 N17q
    obtain ⟨_, _, ⟨T18, L18, k18, n18⟩, -, X18, ⟨Lc18, hQ18, l18, y18, z18⟩, st18⟩ := X17.specialBack hx (y := m_31) rfl hown (mvT hZ (own_w hw 55 rfl)) (mvT hZ (own_w hw 56 rfl)) (mvT hZ (own_w hw 57 rfl)) (by decide) (backOf (W := 1) (rmRsI l Z a0 hw [] b11 b6  h11 n0 Z16 A11 g_b11 F_value_b11 F_this_0_b11) hZ (own_w hw 57 rfl) (own_w hw 50 rfl) (by decide) (by decide)) (g := (mkF m 76 #[.val (.int p1), .val (.int p2), .val (.int p3), .val (.int p4), .val (.int (own_s1 p3)), .val (.int (own_s2 p3)), .val .null, .val (.ref b2), .val (.ref b4), .val (.ref b6), .unset, .unset, .unset, .unset, .unset, .unset, .unset, .unset, .unset, .unset, .unset, .unset, .unset, .unset, .unset, .unset, .unset, .unset, .unset] [(.ref b6), (.ref b11), (.ref b11)])) rfl (by rw [hml]; rfl) (Steps.refl _) (a := b11) (argsL := [(.ref b6)]) (rest := [(.ref b11)]) (lenOf pd_26 rfl) rfl (by show 2 * 0 + _ ≤ _; exact Nat.le_of_eq rfl) (hb hby at_76) (fun _ _ => ⟨rfl, e17, (by decide : 4 + 0 ≤ _), (by decide : 13 + 0 ≤ _)⟩)
    dsimp only [Pt.U, Pt.locs, Pt.cells, Pt.slots] at X18 l18 y18 z18 st18 hQ18
    subst y18 z18
    obtain ⟨rfl, N18q, K18, Ea18, Fa18, Ft18⟩ := hQ18
    have N18 : Fr n0 L18 := by rw [l18]; exact Fr.app N17 N18q
    have Z19 : n0 ≤ T18.heap.size := Nat.le_trans Z16 K18.1
    obtain ⟨cq20, kq20, q20a, q20b, q20c⟩ := isOf hZ rfl Ea18
    obtain ⟨_, _, ⟨T20, L20, k20, n20⟩, -, X20, ⟨Lc20, hQ20, l20, y20, z20⟩, st20⟩ := X18.virtualBack hx (y := m_2) (z := m_2) hown (mvT hZ (own_w hw 61 rfl)) (mvT hZ (own_w hw 62 rfl)) (notFace_of_selects (args := #[]) (mvT hZ (own_w hw 64 rfl))) (mvT hZ (own_w hw 64 rfl)) (mvT hZ (own_w hw 63 rfl)) (by decide) (backOf (W := 0) (rmVaN l Z a0 hw [] b11  T18.heap n0 Z19 J ((((((O0.keep K2 all0).keep K4 all0).ext E6).keep K9 (allS g_b6 all0)).ext E11).keep K18 (allS g_b11 all0)) Fa18) hZ (own_w hw 65 rfl) (own_w hw 50 rfl) (by decide) (by decide)) q20a q20c (g := (mkF m 83 #[.val (.int p1), .val (.int p2), .val (.int p3), .val (.int p4), .val (.int (own_s1 p3)), .val (.int (own_s2 p3)), .val .null, .val (.ref b2), .val (.ref b4), .val (.ref b6), .val (.ref b11), .unset, .unset, .unset, .unset, .unset, .unset, .unset, .unset, .unset, .unset, .unset, .unset, .unset, .unset, .unset, .unset, .unset, .unset] [(.ref b11)])) rfl (by rw [hml]; rfl) (Steps.refl _) (argsL := []) (rest := []) (lenOf pd_27 rfl) rfl (by show 2 * 0 + _ ≤ _; exact Nat.le_of_eq rfl) (hb hby at_83) (fun _ _ => ⟨rfl, rfl, (by decide : 4 + 0 ≤ _), (by decide : 13 + 0 ≤ _)⟩)
    dsimp only [Pt.U, Pt.locs, Pt.cells, Pt.slots] at X20 l20 y20 z20 st20 hQ20
    subst y20 z20
    obtain ⟨b20, rfl, N20q, e20, B20⟩ := hQ20
    have N20 : Fr n0 L20 := by rw [l20]; exact Fr.app N18 N20q
    obtain ⟨_, _, ⟨T21, L21, k21, n21⟩, -, X21, ⟨Lc21, hQ21, l21, y21, z21⟩, st21⟩ := Jvm.LawKit.callS X20 hx (y := m_0) hown (mvT hZ (own_w hw 7 rfl)) (mvT hZ (own_w hw 8 rfl)) (mvT hZ (own_w hw 9 rfl)) (mvT hZ (own_w hw 10 rfl)) (by decide) (backOf (W := 1) (rmV2 l Z a0 hw [] (0 : Int64) (0 : Int32)  T18.heap n0 Z19 J ((((((O0.keep K2 all0).keep K4 all0).ext E6).keep K9 (allS g_b6 all0)).ext E11).keep K18 (allS g_b11 all0)) (own_hm own_HB0) (own_16 own_S0)) hZ (own_w hw 10 rfl) (own_w hw 9 rfl) (by decide) (by decide)) (g := (mkF m 92 #[.val (.int p1), .val (.int p2), .val (.int p3), .val (.int p4), .val (.int (own_s1 p3)), .val (.int (own_s2 p3)), .val .null, .val (.ref b2), .val (.ref b4), .val (.ref b6), .val (.ref b11), .val (.ref b20), .unset, .unset, .unset, .unset, .unset, .unset, .unset, .unset, .unset, .unset, .unset, .unset, .unset, .unset, .unset, .unset, .unset] [(.int (0 : Int32)), (.long (0 : Int64)), (.ref b20)])) rfl (by rw [hml]; rfl) (argsL := [(.long (0 : Int64)), (.int (0 : Int32))]) (rest := [(.ref b20)]) (lenOf pd_10 rfl) rfl (by show 2 * 0 + _ ≤ _; exact Nat.le_of_eq rfl) (hb hby at_92) (fun _ _ => ⟨rfl, e20, (by decide : 4 + 1 ≤ _), (by decide : 13 + 5 ≤ _)⟩)
    dsimp only [Pt.U, Pt.locs, Pt.cells, Pt.slots] at X21 l21 y21 z21 st21 hQ21
    subst y21 z21
    obtain ⟨b21, rfl, N21q, K21, q21, B21, P21⟩ := hQ21
    have N21 : Fr n0 L21 := by rw [l21]; exact Fr.app N20 N21q
    have Z22 : n0 ≤ T21.heap.size := Nat.le_trans Z19 K21.1
    have f23 := B20.1.keep K21
    have f24 := B20.2.1.keep K21 nin0
    have f25 := B20.2.2.keep K21 nin0
    obtain ⟨cq26, kq26, q26a, q26b, q26c⟩ := isOf hZ rfl f23
    obtain ⟨_, _, ⟨T26, L26, k26, n26⟩, -, X26, ⟨Lc26, hQ26, l26, y26, z26⟩, st26⟩ := X21.virtualBack hx (y := m_1) (z := m_1) hown (mvT hZ (own_w hw 69 rfl)) (mvT hZ (own_w hw 70 rfl)) (notFace_of_selects (args := #[]) (mvT hZ (own_w hw 72 rfl))) (mvT hZ (own_w hw 72 rfl)) (mvT hZ (own_w hw 71 rfl)) (by decide) (backOf (W := 0) (rmEq l Z a0 hw [] b20 b21 (0 : Int32) (0 : Int64) T21.heap n0 Z22 ⟨f23, f24, f25⟩ ⟨B21.1, B21.2.1, B21.2.2⟩ (own_hm own_HB0)) hZ (own_w hw 73 rfl) (own_w hw 9 rfl) (by decide) (by decide)) q26a q26c (g := (mkF m 95 #[.val (.int p1), .val (.int p2), .val (.int p3), .val (.int p4), .val (.int (own_s1 p3)), .val (.int (own_s2 p3)), .val .null, .val (.ref b2), .val (.ref b4), .val (.ref b6), .val (.ref b11), .val (.ref b20), .unset, .unset, .unset, .unset, .unset, .unset, .unset, .unset, .unset, .unset, .unset, .unset, .unset, .unset, .unset, .unset, .unset] [(.ref b21), (.ref b20)])) rfl (by rw [hml]; rfl) (Steps.refl _) (argsL := [(.ref b21)]) (rest := []) (lenOf pd_28 rfl) rfl (by show 2 * 0 + _ ≤ _; exact Nat.le_of_eq rfl) (hb hby at_95) (fun _ _ => ⟨rfl, rfl, (by decide : 5 + 0 ≤ _), (by decide : 18 + 0 ≤ _)⟩)
    dsimp only [Pt.U, Pt.locs, Pt.cells, Pt.slots] at X26 l26 y26 z26 st26 hQ26
    subst y26 z26
    obtain ⟨rfl, N26q, e26⟩ := hQ26
    have N26 : Fr n0 L26 := by rw [l26]; exact Fr.app N21 N26q
    have f27 := Ea18.keep K21
    have f28 := Fa18.keep K21 nin0
    have f29 := Ft18.keep K21 nin0
    obtain ⟨cq30, kq30, q30a, q30b, q30c⟩ := isOf hZ e26 f27
    obtain ⟨_, _, ⟨T30, L30, k30, n30⟩, -, X30, ⟨Lc30, hQ30, l30, y30, z30⟩, st30⟩ := X26.virtualBack hx (y := m_3) (z := m_3) hown (mvT hZ (own_w hw 74 rfl)) (mvT hZ (own_w hw 75 rfl)) (notFace_of_selects (args := #[]) (mvT hZ (own_w hw 77 rfl))) (mvT hZ (own_w hw 77 rfl)) (mvT hZ (own_w hw 76 rfl)) (by decide) (backOf (W := 0) (rmRa1 l Z a0 hw [] b11 b2 b6 T21.heap n0 Z22 f27 g_b11 f28 f29) hZ (own_w hw 78 rfl) (own_w hw 50 rfl) (by decide) (by decide)) q30a q30c (g := (mkF m 104 #[.val (.int p1), .val (.int p2), .val (.int p3), .val (.int p4), .val (.int (own_s1 p3)), .val (.int (own_s2 p3)), .val .null, .val (.ref b2), .val (.ref b4), .val (.ref b6), .val (.ref b11), .val (.ref b20), .val (.int (1 : Int32)), .unset, .unset, .unset, .unset, .unset, .unset, .unset, .unset, .unset, .unset, .unset, .unset, .unset, .unset, .unset, .unset] [(.ref b2), (.ref b11)])) rfl (by rw [hml]; rfl) (Steps.refl _) (argsL := [(.ref b2)]) (rest := []) (lenOf pd_29 rfl) rfl (by show 2 * 0 + _ ≤ _; exact Nat.le_of_eq rfl) (hb hby at_104) (fun _ _ => ⟨rfl, e26, (by decide : 5 + 0 ≤ _), (by decide : 18 + 0 ≤ _)⟩)
    dsimp only [Pt.U, Pt.locs, Pt.cells, Pt.slots] at X30 l30 y30 z30 st30 hQ30
    subst y30 z30
    obtain ⟨rfl, N30q, K30, Ea30, Fa30, Ft30⟩ := hQ30
    have N30 : Fr n0 L30 := by rw [l30]; exact Fr.app N26 N30q
    have Z31 : n0 ≤ T30.heap.size := Nat.le_trans Z22 K30.1
    obtain ⟨cq32, kq32, q32a, q32b, q32c⟩ := isOf hZ rfl Ea30
    obtain ⟨_, _, ⟨T32, L32, k32, n32⟩, -, X32, ⟨Lc32, hQ32, l32, y32, z32⟩, st32⟩ := X30.virtualBack hx (y := m_2) (z := m_2) hown (mvT hZ (own_w hw 61 rfl)) (mvT hZ (own_w hw 62 rfl)) (notFace_of_selects (args := #[]) (mvT hZ (own_w hw 64 rfl))) (mvT hZ (own_w hw 64 rfl)) (mvT hZ (own_w hw 63 rfl)) (by decide) (backOf (W := 0) (rmVaR l Z a0 hw [] b11 b2 T30.heap n0 Z31 Fa30) hZ (own_w hw 65 rfl) (own_w hw 50 rfl) (by decide) (by decide)) q32a q32c (g := (mkF m 109 #[.val (.int p1), .val (.int p2), .val (.int p3), .val (.int p4), .val (.int (own_s1 p3)), .val (.int (own_s2 p3)), .val .null, .val (.ref b2), .val (.ref b4), .val (.ref b6), .val (.ref b11), .val (.ref b20), .val (.int (1 : Int32)), .unset, .unset, .unset, .unset, .unset, .unset, .unset, .unset, .unset, .unset, .unset, .unset, .unset, .unset, .unset, .unset] [(.ref b11)])) rfl (by rw [hml]; rfl) (Steps.refl _) (argsL := []) (rest := []) (lenOf pd_27 rfl) rfl (by show 2 * 0 + _ ≤ _; exact Nat.le_of_eq rfl) (hb hby at_109) (fun _ _ => ⟨rfl, rfl, (by decide : 5 + 0 ≤ _), (by decide : 18 + 0 ≤ _)⟩)
    dsimp only [Pt.U, Pt.locs, Pt.cells, Pt.slots] at X32 l32 y32 z32 st32 hQ32
    subst y32 z32
    obtain ⟨rfl, N32q, e32⟩ := hQ32
    have N32 : Fr n0 L32 := by rw [l32]; exact Fr.app N30 N32q
    obtain ⟨_, _, ⟨T33, L33, k33, n33⟩, -, X33, ⟨Lc33, hQ33, l33, y33, z33⟩, st33⟩ := Jvm.LawKit.callS X32 hx (y := m_0) hown (mvT hZ (own_w hw 7 rfl)) (mvT hZ (own_w hw 8 rfl)) (mvT hZ (own_w hw 9 rfl)) (mvT hZ (own_w hw 10 rfl)) (by decide) (backOf (W := 1) (rmV2 l Z a0 hw [] (p1.toInt64) (own_s1 p3)  T30.heap n0 Z31 J ((((((((O0.keep K2 all0).keep K4 all0).ext E6).keep K9 (allS g_b6 all0)).ext E11).keep K18 (allS g_b11 all0)).keep K21 all0).keep K30 (allS g_b11 all0)) (own_hm hx1.b.h) (own_16 hs1)) hZ (own_w hw 10 rfl) (own_w hw 9 rfl) (by decide) (by decide)) (g := (mkF m 120 #[.val (.int p1), .val (.int p2), .val (.int p3), .val (.int p4), .val (.int (own_s1 p3)), .val (.int (own_s2 p3)), .val .null, .val (.ref b2), .val (.ref b4), .val (.ref b6), .val (.ref b11), .val (.ref b20), .val (.int (1 : Int32)), .val (.ref b2), .unset, .unset, .unset, .unset, .unset, .unset, .unset, .unset, .unset, .unset, .unset, .unset, .unset, .unset, .unset] [(.int (own_s1 p3)), (.long (p1.toInt64)), (.ref b2)])) rfl (by rw [hml]; rfl) (argsL := [(.long (p1.toInt64)), (.int (own_s1 p3))]) (rest := [(.ref b2)]) (lenOf pd_10 rfl) rfl (by show 2 * 0 + _ ≤ _; exact Nat.le_of_eq rfl) (hb hby at_120) (fun _ _ => ⟨rfl, e32, (by decide : 5 + 1 ≤ _), (by decide : 18 + 5 ≤ _)⟩)
    dsimp only [Pt.U, Pt.locs, Pt.cells, Pt.slots] at X33 l33 y33 z33 st33 hQ33
    subst y33 z33
    obtain ⟨b33, rfl, N33q, K33, q33, B33, P33⟩ := hQ33
    have N33 : Fr n0 L33 := by rw [l33]; exact Fr.app N32 N33q
    have Z34 : n0 ≤ T33.heap.size := Nat.le_trans Z31 K33.1
    have f35 := f13.ext E11
    have f36 := f35.keep K18
    have f37 := f36.keep K21
    have f38 := f37.keep K30
    have f39 := f38.keep K33
    have f40 := B2.2.1.keep K4 nin0
    have f41 := f40.ext E6
    have f42 := f41.keep K9 (ninS ne_b2_b6 nin0)
    have f43 := f42.ext E11
    have f44 := f43.keep K18 (ninS ne_b2_b11 nin0)
    have f45 := f44.keep K21 nin0
    have f46 := f45.keep K30 (ninS ne_b2_b11 nin0)
    have f47 := f46.keep K33 nin0
    have f48 := B2.2.2.keep K4 nin0
    have f49 := f48.ext E6
    have f50 := f49.keep K9 (ninS ne_b2_b6 nin0)
    have f51 := f50.ext E11
    have f52 := f51.keep K18 (ninS ne_b2_b11 nin0)
    have f53 := f52.keep K21 nin0
    have f54 := f53.keep K30 (ninS ne_b2_b11 nin0)
    have f55 := f54.keep K33 nin0
    obtain ⟨cq56, kq56, q56a, q56b, q56c⟩ := isOf hZ rfl f39
    obtain ⟨_, _, ⟨T56, L56, k56, n56⟩, -, X56, ⟨Lc56, hQ56, l56, y56, z56⟩, st56⟩ := X33.virtualBack hx (y := m_1) (z := m_1) hown (mvT hZ (own_w hw 69 rfl)) (mvT hZ (own_w hw 70 rfl)) (notFace_of_selects (args := #[]) (mvT hZ (own_w hw 72 rfl))) (mvT hZ (own_w hw 72 rfl)) (mvT hZ (own_w hw 71 rfl)) (by decide) (backOf (W := 0) (rmEq l Z a0 hw [] b2 b33 (own_s1 p3) (p1.toInt64) T33.heap n0 Z34 ⟨f39, f47, f55⟩ ⟨B33.1, B33.2.1, B33.2.2⟩ (own_hm hx1.b.h)) hZ (own_w hw 73 rfl) (own_w hw 9 rfl) (by decide) (by decide)) q56a q56c (g := (mkF m 123 #[.val (.int p1), .val (.int p2), .val (.int p3), .val (.int p4), .val (.int (own_s1 p3)), .val (.int (own_s2 p3)), .val .null, .val (.ref b2), .val (.ref b4), .val (.ref b6), .val (.ref b11), .val (.ref b20), .val (.int (1 : Int32)), .val (.ref b2), .unset, .unset, .unset, .unset, .unset, .unset, .unset, .unset, .unset, .unset, .unset, .unset, .unset, .unset, .unset] [(.ref b33), (.ref b2)])) rfl (by rw [hml]; rfl) (Steps.refl _) (argsL := [(.ref b33)]) (rest := []) (lenOf pd_28 rfl) rfl (by show 2 * 0 + _ ≤ _; exact Nat.le_of_eq rfl) (hb hby at_123) (fun _ _ => ⟨rfl, rfl, (by decide : 6 + 0 ≤ _), (by decide : 23 + 0 ≤ _)⟩)
    dsimp only [Pt.U, Pt.locs, Pt.cells, Pt.slots] at X56 l56 y56 z56 st56 hQ56
    subst y56 z56
    obtain ⟨rfl, N56q, e56⟩ := hQ56
    have N56 : Fr n0 L56 := by rw [l56]; exact Fr.app N33 N56q
    have f57 := Fa9.ext E11
    have f58 := f57.keep K18 (ninS ne_b6_b11 nin0)
    have f59 := f58.keep K21 nin0
    have f60 := f59.keep K30 (ninS ne_b6_b11 nin0)
    have f61 := f60.keep K33 nin0
    have f62 := Ea30.keep K33
    have f63 := Fa30.keep K33 nin0
    have f64 := Ft30.keep K33 nin0
    have f65 := Ea9.ext E11
    have f66 := f65.keep K18
    have f67 := f66.keep K21
    have f68 := f67.keep K30
    have f69 := f68.keep K33
    have f70 := f15.ext E11
    have f71 := f70.keep K18
    have f72 := f71.keep K21
    have f73 := f72.keep K30
    have f74 := f73.keep K33
    have f75 := B4.2.1.ext E6
    have f76 := f75.keep K9 (ninS ne_b4_b6 nin0)
    have f77 := f76.ext E11
    have f78 := f77.keep K18 (ninS ne_b4_b11 nin0)
    have f79 := f78.keep K21 nin0
    have f80 := f79.keep K30 (ninS ne_b4_b11 nin0)
    have f81 := f80.keep K33 nin0
    have f82 := B4.2.2.ext E6
    have f83 := f82.keep K9 (ninS ne_b4_b6 nin0)
    have f84 := f83.ext E11
    have f85 := f84.keep K18 (ninS ne_b4_b11 nin0)
    have f86 := f85.keep K21 nin0
    have f87 := f86.keep K30 (ninS ne_b4_b11 nin0)
    have f88 := f87.keep K33 nin0
    obtain ⟨cq89, kq89, q89a, q89b, q89c⟩ := isOf hZ e56 f62
    obtain ⟨_, _, ⟨T89, L89, k89, n89⟩, -, X89, ⟨Lc89, hQ89, l89, y89, z89⟩, st89⟩ := X56.virtualBack hx (y := m_3) (z := m_3) hown (mvT hZ (own_w hw 74 rfl)) (mvT hZ (own_w hw 75 rfl)) (notFace_of_selects (args := #[]) (mvT hZ (own_w hw 77 rfl))) (mvT hZ (own_w hw 77 rfl)) (mvT hZ (own_w hw 76 rfl)) (by decide) (backOf (W := 0) (rmRa2 l Z a0 hw [] b11 b4 b2 b6 (p1.toInt64) (own_s1 p3) (p2.toInt64) (own_s2 p3) none T33.heap n0 Z34 J (((((((((O0.keep K2 all0).keep K4 all0).ext E6).keep K9 (allS g_b6 all0)).ext E11).keep K18 (allS g_b11 all0)).keep K21 all0).keep K30 (allS g_b11 all0)).keep K33 all0) f62 g_b11 f63 f64 f69 f61 ⟨f39, f47, f55⟩ ⟨f74, f81, f88⟩ hx1 hx2 hs1 hs2) hZ (own_w hw 78 rfl) (own_w hw 50 rfl) (by decide) (by decide)) q89a q89c (g := (mkF m 132 #[.val (.int p1), .val (.int p2), .val (.int p3), .val (.int p4), .val (.int (own_s1 p3)), .val (.int (own_s2 p3)), .val .null, .val (.ref b2), .val (.ref b4), .val (.ref b6), .val (.ref b11), .val (.ref b20), .val (.int (1 : Int32)), .val (.ref b2), .val (.int (1 : Int32)), .unset, .unset, .unset, .unset, .unset, .unset, .unset, .unset, .unset, .unset, .unset, .unset, .unset, .unset] [(.ref b4), (.ref b11)])) rfl (by rw [hml]; rfl) (Steps.refl _) (argsL := [(.ref b4)]) (rest := []) (lenOf pd_29 rfl) rfl (by show 2 * 0 + _ ≤ _; exact Nat.le_of_eq rfl) (hb hby at_132) (fun _ _ => ⟨rfl, e56, (by decide : 6 + 2 ≤ _), (by decide : 23 + 10 ≤ _)⟩)
    dsimp only [Pt.U, Pt.locs, Pt.cells, Pt.slots] at X89 l89 y89 z89 st89 hQ89
    subst y89 z89
    obtain ⟨b89, rfl, N89q, K89, Ea89, Fa89, B89⟩ := hQ89
    have N89 : Fr n0 L89 := by rw [l89]; exact Fr.app N56 N89q
    have Z90 : n0 ≤ T89.heap.size := Nat.le_trans Z34 K89.1
    obtain ⟨cq91, kq91, q91a, q91b, q91c⟩ := isOf hZ rfl Ea89
    obtain ⟨_, _, ⟨T91, L91, k91, n91⟩, -, X91, ⟨Lc91, hQ91, l91, y91, z91⟩, st91⟩ := X89.virtualBack hx (y := m_2) (z := m_2) hown (mvT hZ (own_w hw 61 rfl)) (mvT hZ (own_w hw 62 rfl)) (notFace_of_selects (args := #[]) (mvT hZ (own_w hw 64 rfl))) (mvT hZ (own_w hw 64 rfl)) (mvT hZ (own_w hw 63 rfl)) (by decide) (backOf (W := 0) (rmVaR l Z a0 hw [] b11 b89 T89.heap n0 Z90 Fa89) hZ (own_w hw 65 rfl) (own_w hw 50 rfl) (by decide) (by decide)) q91a q91c (g := (mkF m 137 #[.val (.int p1), .val (.int p2), .val (.int p3), .val (.int p4), .val (.int (own_s1 p3)), .val (.int (own_s2 p3)), .val .null, .val (.ref b2), .val (.ref b4), .val (.ref b6), .val (.ref b11), .val (.ref b20), .val (.int (1 : Int32)), .val (.ref b2), .val (.int (1 : Int32)), .unset, .unset, .unset, .unset, .unset, .unset, .unset, .unset, .unset, .unset, .unset, .unset, .unset, .unset] [(.ref b11)])) rfl (by rw [hml]; rfl) (Steps.refl _) (argsL := []) (rest := []) (lenOf pd_27 rfl) rfl (by show 2 * 0 + _ ≤ _; exact Nat.le_of_eq rfl) (hb hby at_137) (fun _ _ => ⟨rfl, rfl, (by decide : 8 + 0 ≤ _), (by decide : 33 + 0 ≤ _)⟩)
    dsimp only [Pt.U, Pt.locs, Pt.cells, Pt.slots] at X91 l91 y91 z91 st91 hQ91
    subst y91 z91
    obtain ⟨rfl, N91q, e91⟩ := hQ91
    have N91 : Fr n0 L91 := by rw [l91]; exact Fr.app N89 N91q
    obtain ⟨_, _, ⟨T92, L92, k92, n92⟩, -, X92, ⟨Lc92, hQ92, l92, y92, z92⟩, st92⟩ := Jvm.LawKit.callS X91 hx (y := m_16) hown (mvT hZ (own_w hw 128 rfl)) (mvT hZ (own_w hw 129 rfl)) (mvT hZ (own_w hw 102 rfl)) (mvT hZ (own_w hw 130 rfl)) (by decide) (backOf (W := 0) (rmMax l Z a0 hw [] (own_s1 p3) (own_s2 p3)  T89.heap n0 Z90 ) hZ (own_w hw 130 rfl) (own_w hw 102 rfl) (by decide) (by decide)) (g := (mkF m 146 #[.val (.int p1), .val (.int p2), .val (.int p3), .val (.int p4), .val (.int (own_s1 p3)), .val (.int (own_s2 p3)), .val .null, .val (.ref b2), .val (.ref b4), .val (.ref b6), .val (.ref b11), .val (.ref b20), .val (.int (1 : Int32)), .val (.ref b2), .val (.int (1 : Int32)), .val (.ref b89), .unset, .unset, .unset, .unset, .unset, .unset, .unset, .unset, .unset, .unset, .unset, .unset, .unset] [(.int (own_s2 p3)), (.int (own_s1 p3))])) rfl (by rw [hml]; rfl) (argsL := [(.int (own_s1 p3)), (.int (own_s2 p3))]) (rest := []) (lenOf pd_30 rfl) rfl (by show 2 * 0 + _ ≤ _; exact Nat.le_of_eq rfl) (hb hby at_146) (fun _ _ => ⟨rfl, e91, (by decide : 8 + 0 ≤ _), (by decide : 33 + 0 ≤ _)⟩)
    dsimp only [Pt.U, Pt.locs, Pt.cells, Pt.slots] at X92 l92 y92 z92 st92 hQ92
    subst y92 z92
    obtain ⟨rfl, N92q, e92⟩ := hQ92
    have N92 : Fr n0 L92 := by rw [l92]; exact Fr.app N91 N92q
    obtain ⟨_, _, ⟨T93, L93, k93, n93⟩, -, X93, ⟨Lc93, hQ93, l93, y93, z93⟩, st93⟩ := Jvm.LawKit.callS X92 hx (y := m_8) hown (mvT hZ (own_w hw 131 rfl)) (mvT hZ (own_w hw 132 rfl)) (mvT hZ (own_w hw 133 rfl)) (mvT hZ (own_w hw 134 rfl)) (by decide) (backOf (W := 2) (rmP10 l Z a0 hw [] ((own_max (own_s1 p3) (own_s2 p3)) - (own_s1 p3))  T89.heap n0 Z90 ha1 ha2) hZ (own_w hw 134 rfl) (own_w hw 133 rfl) (by decide) (by decide)) (g := (mkF m 158 #[.val (.int p1), .val (.int p2), .val (.int p3), .val (.int p4), .val (.int (own_s1 p3)), .val (.int (own_s2 p3)), .val .null, .val (.ref b2), .val (.ref b4), .val (.ref b6), .val (.ref b11), .val (.ref b20), .val (.int (1 : Int32)), .val (.ref b2), .val (.int (1 : Int32)), .val (.ref b89), .val (.int (own_max (own_s1 p3) (own_s2 p3))), .unset, .unset, .unset, .unset, .unset, .unset, .unset, .unset, .unset, .unset, .unset, .unset] [(.int ((own_max (own_s1 p3) (own_s2 p3)) - (own_s1 p3))), (.long (p1.toInt64))])) rfl (by rw [hml]; rfl) (argsL := [(.int ((own_max (own_s1 p3) (own_s2 p3)) - (own_s1 p3)))]) (rest := [(.long (p1.toInt64))]) (lenOf pd_31 rfl) rfl (by show 2 * 0 + _ ≤ _; exact Nat.le_of_eq rfl) (hb hby at_158) (fun _ _ => ⟨rfl, e92, (by decide : 8 + 1 ≤ _), (by decide : 33 + 8 ≤ _)⟩)
    dsimp only [Pt.U, Pt.locs, Pt.cells, Pt.slots] at X93 l93 y93 z93 st93 hQ93
    subst y93 z93
    obtain ⟨rfl, N93q, K93⟩ := hQ93
    have N93 : Fr n0 L93 := by rw [l93]; exact Fr.app N92 N93q
    have Z94 : n0 ≤ T93.heap.size := Nat.le_trans Z90 K93.1
    obtain ⟨_, _, ⟨T95, L95, k95, n95⟩, -, X95, ⟨Lc95, hQ95, l95, y95, z95⟩, st95⟩ := Jvm.LawKit.callS X93 hx (y := m_8) hown (mvT hZ (own_w hw 131 rfl)) (mvT hZ (own_w hw 132 rfl)) (mvT hZ (own_w hw 133 rfl)) (mvT hZ (own_w hw 134 rfl)) (by decide) (backOf (W := 4) (rmP10 l Z a0 hw [] ((own_max (own_s1 p3) (own_s2 p3)) - (own_s2 p3))  T93.heap n0 Z94 hb1 hb2) hZ (own_w hw 134 rfl) (own_w hw 133 rfl) (by decide) (by decide)) (g := (mkF m 169 #[.val (.int p1), .val (.int p2), .val (.int p3), .val (.int p4), .val (.int (own_s1 p3)), .val (.int (own_s2 p3)), .val .null, .val (.ref b2), .val (.ref b4), .val (.ref b6), .val (.ref b11), .val (.ref b20), .val (.int (1 : Int32)), .val (.ref b2), .val (.int (1 : Int32)), .val (.ref b89), .val (.int (own_max (own_s1 p3) (own_s2 p3))), .unset, .unset, .unset, .unset, .unset, .unset, .unset, .unset, .unset, .unset, .unset, .unset] [(.int ((own_max (own_s1 p3) (own_s2 p3)) - (own_s2 p3))), (.long (p2.toInt64)), (.long ((p1.toInt64) * (own_pw ((own_max (own_s1 p3) (own_s2 p3)) - (own_s1 p3)))))])) rfl (by rw [hml]; rfl) (argsL := [(.int ((own_max (own_s1 p3) (own_s2 p3)) - (own_s2 p3)))]) (rest := [(.long (p2.toInt64)), (.long ((p1.toInt64) * (own_pw ((own_max (own_s1 p3) (own_s2 p3)) - (own_s1 p3)))))]) (lenOf pd_31 rfl) rfl (by show 2 * 0 + _ ≤ _; exact Nat.le_of_eq rfl) (hb hby at_169) (fun _ _ => ⟨rfl, rfl, (by decide : 9 + 1 ≤ _), (by decide : 41 + 8 ≤ _)⟩)
    dsimp only [Pt.U, Pt.locs, Pt.cells, Pt.slots] at X95 l95 y95 z95 st95 hQ95
    subst y95 z95
    obtain ⟨rfl, N95q, K95⟩ := hQ95
    have N95 : Fr n0 L95 := by rw [l95]; exact Fr.app N93 N95q
    have Z96 : n0 ≤ T95.heap.size := Nat.le_trans Z94 K95.1
    obtain ⟨_, _, ⟨T97, L97, k97, n97⟩, -, X97, ⟨Lc97, hQ97, l97, y97, z97⟩, st97⟩ := Jvm.LawKit.callS X95 hx (y := m_0) hown (mvT hZ (own_w hw 7 rfl)) (mvT hZ (own_w hw 8 rfl)) (mvT hZ (own_w hw 9 rfl)) (mvT hZ (own_w hw 10 rfl)) (by decide) (backOf (W := 1) (rmV2 l Z a0 hw [] (own_U (p1.toInt64) (own_s1 p3) (p2.toInt64) (own_s2 p3)) (own_max (own_s1 p3) (own_s2 p3))  T95.heap n0 Z96 J ((((((((((((O0.keep K2 all0).keep K4 all0).ext E6).keep K9 (allS g_b6 all0)).ext E11).keep K18 (allS g_b11 all0)).keep K21 all0).keep K30 (allS g_b11 all0)).keep K33 all0).keep K89 (allS g_b11 all0)).keep K93 all0).keep K95 all0) (own_hm hU) (own_16 hM)) hZ (own_w hw 10 rfl) (own_w hw 9 rfl) (by decide) (by decide)) (g := (mkF m 285 #[.val (.int p1), .val (.int p2), .val (.int p3), .val (.int p4), .val (.int (own_s1 p3)), .val (.int (own_s2 p3)), .val .null, .val (.ref b2), .val (.ref b4), .val (.ref b6), .val (.ref b11), .val (.ref b20), .val (.int (1 : Int32)), .val (.ref b2), .val (.int (1 : Int32)), .val (.ref b89), .val (.int (own_max (own_s1 p3) (own_s2 p3))), .val (.long (own_U (p1.toInt64) (own_s1 p3) (p2.toInt64) (own_s2 p3))), .second, .val (.long (own_U (p1.toInt64) (own_s1 p3) (p2.toInt64) (own_s2 p3))), .second, .val (.int (own_max (own_s1 p3) (own_s2 p3))), .unset, .unset, .unset, .unset, .unset, .unset, .unset] [(.int (own_max (own_s1 p3) (own_s2 p3))), (.long (own_U (p1.toInt64) (own_s1 p3) (p2.toInt64) (own_s2 p3))), (.ref b89)])) rfl (by rw [hml]; rfl) (argsL := [(.long (own_U (p1.toInt64) (own_s1 p3) (p2.toInt64) (own_s2 p3))), (.int (own_max (own_s1 p3) (own_s2 p3)))]) (rest := [(.ref b89)]) (lenOf pd_10 rfl) rfl (by show 2 * 0 + _ ≤ _; exact Nat.le_of_eq rfl) (hb hby at_285) (fun _ _ => ⟨rfl, rfl, (by decide : 10 + 1 ≤ _), (by decide : 49 + 5 ≤ _)⟩)
    dsimp only [Pt.U, Pt.locs, Pt.cells, Pt.slots] at X97 l97 y97 z97 st97 hQ97
    subst y97 z97
    obtain ⟨b97, rfl, N97q, K97, q97, B97, P97⟩ := hQ97
    have N97 : Fr n0 L97 := by rw [l97]; exact Fr.app N95 N97q
    have Z98 : n0 ≤ T97.heap.size := Nat.le_trans Z96 K97.1
    have f99 := B89.1.keep K93
    have f100 := f99.keep K95
    have f101 := f100.keep K97
    have f102 := B89.2.1.keep K93 nin0
    have f103 := f102.keep K95 nin0
    have f104 := f103.keep K97 nin0
    have f105 := B89.2.2.keep K93 nin0
    have f106 := f105.keep K95 nin0
    have f107 := f106.keep K97 nin0
    obtain ⟨cq108, kq108, q108a, q108b, q108c⟩ := isOf hZ rfl f101
    obtain ⟨_, _, ⟨T108, L108, k108, n108⟩, -, X108, ⟨Lc108, hQ108, l108, y108, z108⟩, st108⟩ := X97.virtualBack hx (y := m_1) (z := m_1) hown (mvT hZ (own_w hw 69 rfl)) (mvT hZ (own_w hw 70 rfl)) (notFace_of_selects (args := #[]) (mvT hZ (own_w hw 72 rfl))) (mvT hZ (own_w hw 72 rfl)) (mvT hZ (own_w hw 71 rfl)) (by decide) (backOf (W := 0) (rmEq l Z a0 hw [] b89 b97 (own_max (own_s1 p3) (own_s2 p3)) (own_U (p1.toInt64) (own_s1 p3) (p2.toInt64) (own_s2 p3)) T97.heap n0 Z98 ⟨f101, f104, f107⟩ ⟨B97.1, B97.2.1, B97.2.2⟩ (own_hm hU)) hZ (own_w hw 73 rfl) (own_w hw 9 rfl) (by decide) (by decide)) q108a q108c (g := (mkF m 288 #[.val (.int p1), .val (.int p2), .val (.int p3), .val (.int p4), .val (.int (own_s1 p3)), .val (.int (own_s2 p3)), .val .null, .val (.ref b2), .val (.ref b4), .val (.ref b6), .val (.ref b11), .val (.ref b20), .val (.int (1 : Int32)), .val (.ref b2), .val (.int (1 : Int32)), .val (.ref b89), .val (.int (own_max (own_s1 p3) (own_s2 p3))), .val (.long (own_U (p1.toInt64) (own_s1 p3) (p2.toInt64) (own_s2 p3))), .second, .val (.long (own_U (p1.toInt64) (own_s1 p3) (p2.toInt64) (own_s2 p3))), .second, .val (.int (own_max (own_s1 p3) (own_s2 p3))), .unset, .unset, .unset, .unset, .unset, .unset, .unset] [(.ref b97), (.ref b89)])) rfl (by rw [hml]; rfl) (Steps.refl _) (argsL := [(.ref b97)]) (rest := []) (lenOf pd_28 rfl) rfl (by show 2 * 0 + _ ≤ _; exact Nat.le_of_eq rfl) (hb hby at_288) (fun _ _ => ⟨rfl, rfl, (by decide : 11 + 0 ≤ _), (by decide : 54 + 0 ≤ _)⟩)
    dsimp only [Pt.U, Pt.locs, Pt.cells, Pt.slots] at X108 l108 y108 z108 st108 hQ108
    subst y108 z108
    obtain ⟨rfl, N108q, e108⟩ := hQ108
    have N108 : Fr n0 L108 := by rw [l108]; exact Fr.app N97 N108q
    obtain ⟨fs, hr, hrun, hended, hW, hsame⟩ := X108.leave (v := some (.int (1 : Int32))) (fun h => by rw [Bd.returns] at h; cases h) Bd.notSynchronized
    refine ⟨_, _, pre0 _ ?_, hrun, hended, _, _, rfl, ?_, ⟨_, rfl⟩, hW, hsame.mono (by decide) (by decide)⟩
    · refine pk1 _ ?_
      show Steps p.tables e below (s₁.setTop (mkF m 21 #[.val (.int p1), .val (.int p2), .val (.int p3), .val (.int p4), .val (.int (own_s1 p3)), .val (.int (own_s2 p3)), .unset, .unset, .unset, .unset, .unset, .unset, .unset, .unset, .unset, .unset, .unset, .unset, .unset, .unset, .unset, .unset, .unset, .unset, .unset, .unset, .unset, .unset, .unset] [(.int (p4 &&& (4 : Int32)))])) _
      refine XS.ifNo X0.here hx rfl (hb hby at_21) rfl ((if0 _ _).trans (feq (hq0 : ¬ ((p4 &&& (4 : Int32)) = (0 : Int32)))).1) ?_
      refine XS.aconstNull X0.here hx rfl (hb hby at_24) ?_
      refine XS.goto X0.here hx rfl (pc0 := 25) (pc' := 34) rfl (hb hby at_25) (by decide) (by decide) ?_
      refine XS.astore X0.here hx rfl (hb hby at_34) rfl rfl (l' := #[.val (.int p1), .val (.int p2), .val (.int p3), .val (.int p4), .val (.int (own_s1 p3)), .val (.int (own_s2 p3)), .val .null, .unset, .unset, .unset, .unset, .unset, .unset, .unset, .unset, .unset, .unset, .unset, .unset, .unset, .unset, .unset, .unset, .unset, .unset, .unset, .unset, .unset, .unset]) rfl ?_
      refine XS.iloadN X0.here hx rfl (hb hby at_36) rfl ?_
      refine XS.i2l X0.here hx rfl (hb hby at_37) rfl ?_
      refine XS.iload X0.here hx rfl (hb hby at_38) rfl ?_
      refine st2 _ ?_
      refine XS.astore X2.here hx rfl (hb hby at_43) rfl rfl (l' := #[.val (.int p1), .val (.int p2), .val (.int p3), .val (.int p4), .val (.int (own_s1 p3)), .val (.int (own_s2 p3)), .val .null, .val (.ref b2), .unset, .unset, .unset, .unset, .unset, .unset, .unset, .unset, .unset, .unset, .unset, .unset, .unset, .unset, .unset, .unset, .unset, .unset, .unset, .unset, .unset]) rfl ?_
      refine XS.iloadN X2.here hx rfl (hb hby at_45) rfl ?_
      refine XS.i2l X2.here hx rfl (hb hby at_46) rfl ?_
      refine XS.iload X2.here hx rfl (hb hby at_47) rfl ?_
      refine st4 _ ?_
      refine XS.astore X4.here hx rfl (hb hby at_52) rfl rfl (l' := #[.val (.int p1), .val (.int p2), .val (.int p3), .val (.int p4), .val (.int (own_s1 p3)), .val (.int (own_s2 p3)), .val .null, .val (.ref b2), .val (.ref b4), .unset, .unset, .unset, .unset, .unset, .unset, .unset, .unset, .unset, .unset, .unset, .unset, .unset, .unset, .unset, .unset, .unset, .unset, .unset, .unset]) rfl ?_
      refine st6 _ ?_
      refine XS.dup X6.here hx rfl (hb hby at_57) rfl rfl ?_
      refine XS.aload X6.here hx rfl (hb hby at_58) rfl rfl ?_
      refine st9.trans ?_
      refine XS.astore X9.here hx rfl (hb hby at_63) rfl rfl (l' := #[.val (.int p1), .val (.int p2), .val (.int p3), .val (.int p4), .val (.int (own_s1 p3)), .val (.int (own_s2 p3)), .val .null, .val (.ref b2), .val (.ref b4), .val (.ref b6), .unset, .unset, .unset, .unset, .unset, .unset, .unset, .unset, .unset, .unset, .unset, .unset, .unset, .unset, .unset, .unset, .unset, .unset, .unset]) rfl ?_
      refine st11 _ ?_
      refine XS.dup X11.here hx rfl (hb hby at_68) rfl rfl ?_
      refine XS.aload X11.here hx rfl (hb hby at_69) rfl rfl ?_
      refine XS.dup X11.here hx rfl (hb hby at_71) rfl rfl ?_
      refine st17 _ ?_
      refine XS.pop X17.here hx rfl (hb hby at_75) rfl rfl ?_
      refine st18.trans ?_
      show Steps p.tables e below (T18.setTop (mkF m 79 #[.val (.int p1), .val (.int p2), .val (.int p3), .val (.int p4), .val (.int (own_s1 p3)), .val (.int (own_s2 p3)), .val .null, .val (.ref b2), .val (.ref b4), .val (.ref b6), .unset, .unset, .unset, .unset, .unset, .unset, .unset, .unset, .unset, .unset, .unset, .unset, .unset, .unset, .unset, .unset, .unset, .unset, .unset] [(.ref b11)])) _
      refine XS.astore X18.here hx rfl (hb hby at_79) rfl rfl (l' := #[.val (.int p1), .val (.int p2), .val (.int p3), .val (.int p4), .val (.int (own_s1 p3)), .val (.int (own_s2 p3)), .val .null, .val (.ref b2), .val (.ref b4), .val (.ref b6), .val (.ref b11), .unset, .unset, .unset, .unset, .unset, .unset, .unset, .unset, .unset, .unset, .unset, .unset, .unset, .unset, .unset, .unset, .unset, .unset]) rfl ?_
      refine XS.aload X18.here hx rfl (hb hby at_81) rfl rfl ?_
      refine st20.trans ?_
      refine XS.astore X20.here hx rfl (hb hby at_86) rfl rfl (l' := #[.val (.int p1), .val (.int p2), .val (.int p3), .val (.int p4), .val (.int (own_s1 p3)), .val (.int (own_s2 p3)), .val .null, .val (.ref b2), .val (.ref b4), .val (.ref b6), .val (.ref b11), .val (.ref b20), .unset, .unset, .unset, .unset, .unset, .unset, .unset, .unset, .unset, .unset, .unset, .unset, .unset, .unset, .unset, .unset, .unset]) rfl ?_
      refine XS.aload X20.here hx rfl (hb hby at_88) rfl rfl ?_
      refine XS.lconst X20.here hx rfl (hb hby at_90) ?_
      refine XS.iconst X20.here hx rfl (hb hby at_91) ?_
      refine st21 _ ?_
      refine st26.trans ?_
      refine XS.istore X26.here hx rfl (hb hby at_98) rfl (l' := #[.val (.int p1), .val (.int p2), .val (.int p3), .val (.int p4), .val (.int (own_s1 p3)), .val (.int (own_s2 p3)), .val .null, .val (.ref b2), .val (.ref b4), .val (.ref b6), .val (.ref b11), .val (.ref b20), .val (.int (1 : Int32)), .unset, .unset, .unset, .unset, .unset, .unset, .unset, .unset, .unset, .unset, .unset, .unset, .unset, .unset, .unset, .unset]) rfl ?_
      refine XS.aload X26.here hx rfl (hb hby at_100) rfl rfl ?_
      refine XS.aload X26.here hx rfl (hb hby at_102) rfl rfl ?_
      refine st30.trans ?_
      refine XS.aload X30.here hx rfl (hb hby at_107) rfl rfl ?_
      refine st32.trans ?_
      refine XS.astore X32.here hx rfl (hb hby at_112) rfl rfl (l' := #[.val (.int p1), .val (.int p2), .val (.int p3), .val (.int p4), .val (.int (own_s1 p3)), .val (.int (own_s2 p3)), .val .null, .val (.ref b2), .val (.ref b4), .val (.ref b6), .val (.ref b11), .val (.ref b20), .val (.int (1 : Int32)), .val (.ref b2), .unset, .unset, .unset, .unset, .unset, .unset, .unset, .unset, .unset, .unset, .unset, .unset, .unset, .unset, .unset]) rfl ?_
      refine XS.aload X32.here hx rfl (hb hby at_114) rfl rfl ?_
      refine XS.iloadN X32.here hx rfl (hb hby at_116) rfl ?_
      refine XS.i2l X32.here hx rfl (hb hby at_117) rfl ?_
      refine XS.iload X32.here hx rfl (hb hby at_118) rfl ?_
      refine st33 _ ?_
      refine st56.trans ?_
      refine XS.istore X56.here hx rfl (hb hby at_126) rfl (l' := #[.val (.int p1), .val (.int p2), .val (.int p3), .val (.int p4), .val (.int (own_s1 p3)), .val (.int (own_s2 p3)), .val .null, .val (.ref b2), .val (.ref b4), .val (.ref b6), .val (.ref b11), .val (.ref b20), .val (.int (1 : Int32)), .val (.ref b2), .val (.int (1 : Int32)), .unset, .unset, .unset, .unset, .unset, .unset, .unset, .unset, .unset, .unset, .unset, .unset, .unset, .unset]) rfl ?_
      refine XS.aload X56.here hx rfl (hb hby at_128) rfl rfl ?_
      refine XS.aload X56.here hx rfl (hb hby at_130) rfl rfl ?_
      refine st89.trans ?_
      show Steps p.tables e below (T89.setTop (mkF m 135 #[.val (.int p1), .val (.int p2), .val (.int p3), .val (.int p4), .val (.int (own_s1 p3)), .val (.int (own_s2 p3)), .val .null, .val (.ref b2), .val (.ref b4), .val (.ref b6), .val (.ref b11), .val (.ref b20), .val (.int (1 : Int32)), .val (.ref b2), .val (.int (1 : Int32)), .unset, .unset, .unset, .unset, .unset, .unset, .unset, .unset, .unset, .unset, .unset, .unset, .unset, .unset] [])) _
      refine XS.aload X89.here hx rfl (hb hby at_135) rfl rfl ?_
      refine st91.trans ?_
      refine XS.astore X91.here hx rfl (hb hby at_140) rfl rfl (l' := #[.val (.int p1), .val (.int p2), .val (.int p3), .val (.int p4), .val (.int (own_s1 p3)), .val (.int (own_s2 p3)), .val .null, .val (.ref b2), .val (.ref b4), .val (.ref b6), .val (.ref b11), .val (.ref b20), .val (.int (1 : Int32)), .val (.ref b2), .val (.int (1 : Int32)), .val (.ref b89), .unset, .unset, .unset, .unset, .unset, .unset, .unset, .unset, .unset, .unset, .unset, .unset, .unset]) rfl ?_
      refine XS.iload X91.here hx rfl (hb hby at_142) rfl ?_
      refine XS.iload X91.here hx rfl (hb hby at_144) rfl ?_
      refine st92 _ ?_
      refine XS.istore X92.here hx rfl (hb hby at_149) rfl (l' := #[.val (.int p1), .val (.int p2), .val (.int p3), .val (.int p4), .val (.int (own_s1 p3)), .val (.int (own_s2 p3)), .val .null, .val (.ref b2), .val (.ref b4), .val (.ref b6), .val (.ref b11), .val (.ref b20), .val (.int (1 : Int32)), .val (.ref b2), .val (.int (1 : Int32)), .val (.ref b89), .val (.int (own_max (own_s1 p3) (own_s2 p3))), .unset, .unset, .unset, .unset, .unset, .unset, .unset, .unset, .unset, .unset, .unset, .unset]) rfl ?_
      refine XS.iloadN X92.here hx rfl (hb hby at_151) rfl ?_
      refine XS.i2l X92.here hx rfl (hb hby at_152) rfl ?_
      refine XS.iload X92.here hx rfl (hb hby at_153) rfl ?_
      refine XS.iload X92.here hx rfl (hb hby at_155) rfl ?_
      refine XS.isub X92.here hx rfl (hb hby at_157) rfl ?_
      refine st93 _ ?_
      refine XS.lmul X93.here hx rfl (hb hby at_161) rfl ?_
      refine XS.iloadN X93.here hx rfl (hb hby at_162) rfl ?_
      refine XS.i2l X93.here hx rfl (hb hby at_163) rfl ?_
      refine XS.iload X93.here hx rfl (hb hby at_164) rfl ?_
      refine XS.iload X93.here hx rfl (hb hby at_166) rfl ?_
      refine XS.isub X93.here hx rfl (hb hby at_168) rfl ?_
      refine st95 _ ?_
      refine XS.lmul X95.here hx rfl (hb hby at_172) rfl ?_
      refine XS.ladd X95.here hx rfl (hb hby at_173) rfl ?_
      refine XS.lstore X95.here hx rfl (hb hby at_174) rfl (l' := #[.val (.int p1), .val (.int p2), .val (.int p3), .val (.int p4), .val (.int (own_s1 p3)), .val (.int (own_s2 p3)), .val .null, .val (.ref b2), .val (.ref b4), .val (.ref b6), .val (.ref b11), .val (.ref b20), .val (.int (1 : Int32)), .val (.ref b2), .val (.int (1 : Int32)), .val (.ref b89), .val (.int (own_max (own_s1 p3) (own_s2 p3))), .val (.long (own_U (p1.toInt64) (own_s1 p3) (p2.toInt64) (own_s2 p3))), .second, .unset, .unset, .unset, .unset, .unset, .unset, .unset, .unset, .unset, .unset]) rfl ?_
      refine XS.lload X95.here hx rfl (hb hby at_176) rfl ?_
      refine XS.lstore X95.here hx rfl (hb hby at_178) rfl (l' := #[.val (.int p1), .val (.int p2), .val (.int p3), .val (.int p4), .val (.int (own_s1 p3)), .val (.int (own_s2 p3)), .val .null, .val (.ref b2), .val (.ref b4), .val (.ref b6), .val (.ref b11), .val (.ref b20), .val (.int (1 : Int32)), .val (.ref b2), .val (.int (1 : Int32)), .val (.ref b89), .val (.int (own_max (own_s1 p3) (own_s2 p3))), .val (.long (own_U (p1.toInt64) (own_s1 p3) (p2.toInt64) (own_s2 p3))), .second, .val (.long (own_U (p1.toInt64) (own_s1 p3) (p2.toInt64) (own_s2 p3))), .second, .unset, .unset, .unset, .unset, .unset, .unset, .unset, .unset]) rfl ?_
      refine XS.iload X95.here hx rfl (hb hby at_180) rfl ?_
      show Steps p.tables e below (T95.setTop (mkF m 182 #[.val (.int p1), .val (.int p2), .val (.int p3), .val (.int p4), .val (.int (own_s1 p3)), .val (.int (own_s2 p3)), .val .null, .val (.ref b2), .val (.ref b4), .val (.ref b6), .val (.ref b11), .val (.ref b20), .val (.int (1 : Int32)), .val (.ref b2), .val (.int (1 : Int32)), .val (.ref b89), .val (.int (own_max (own_s1 p3) (own_s2 p3))), .val (.long (own_U (p1.toInt64) (own_s1 p3) (p2.toInt64) (own_s2 p3))), .second, .val (.long (own_U (p1.toInt64) (own_s1 p3) (p2.toInt64) (own_s2 p3))), .second, .unset, .unset, .unset, .unset, .unset, .unset, .unset, .unset] [(.int (own_max (own_s1 p3) (own_s2 p3)))])) _
      refine XS.istore X95.here hx rfl (hb hby at_182) rfl (l' := #[.val (.int p1), .val (.int p2), .val (.int p3), .val (.int p4), .val (.int (own_s1 p3)), .val (.int (own_s2 p3)), .val .null, .val (.ref b2), .val (.ref b4), .val (.ref b6), .val (.ref b11), .val (.ref b20), .val (.int (1 : Int32)), .val (.ref b2), .val (.int (1 : Int32)), .val (.ref b89), .val (.int (own_max (own_s1 p3) (own_s2 p3))), .val (.long (own_U (p1.toInt64) (own_s1 p3) (p2.toInt64) (own_s2 p3))), .second, .val (.long (own_U (p1.toInt64) (own_s1 p3) (p2.toInt64) (own_s2 p3))), .second, .val (.int (own_max (own_s1 p3) (own_s2 p3))), .unset, .unset, .unset, .unset, .unset, .unset, .unset]) rfl ?_
      refine XS.aload X95.here hx rfl (hb hby at_184) rfl rfl ?_
      refine XS.ifnullYes X95.here hx rfl (pc0 := 186) (pc' := 279) rfl (hb hby at_186) rfl (by decide) (by decide) ?_
      refine XS.aload X95.here hx rfl (hb hby at_279) rfl rfl ?_
      refine XS.lload X95.here hx rfl (hb hby at_281) rfl ?_
      refine XS.iload X95.here hx rfl (hb hby at_283) rfl ?_
      refine st97 _ ?_
      refine st108.trans ?_
      refine XS.istore X108.here hx rfl (hb hby at_291) rfl (l' := #[.val (.int p1), .val (.int p2), .val (.int p3), .val (.int p4), .val (.int (own_s1 p3)), .val (.int (own_s2 p3)), .val .null, .val (.ref b2), .val (.ref b4), .val (.ref b6), .val (.ref b11), .val (.ref b20), .val (.int (1 : Int32)), .val (.ref b2), .val (.int (1 : Int32)), .val (.ref b89), .val (.int (own_max (own_s1 p3) (own_s2 p3))), .val (.long (own_U (p1.toInt64) (own_s1 p3) (p2.toInt64) (own_s2 p3))), .second, .val (.long (own_U (p1.toInt64) (own_s1 p3) (p2.toInt64) (own_s2 p3))), .second, .val (.int (own_max (own_s1 p3) (own_s2 p3))), .val (.int (1 : Int32)), .unset, .unset, .unset, .unset, .unset, .unset]) rfl ?_
      refine XS.iload X108.here hx rfl (hb hby at_293) rfl ?_
      refine XS.ifNo X108.here hx rfl (hb hby at_295) rfl ((if0 _ _).trans (feq (by decide : ¬ ((1 : Int32) = (0 : Int32)))).1) ?_
      refine XS.iload X108.here hx rfl (hb hby at_298) rfl ?_
      refine XS.ifNo X108.here hx rfl (hb hby at_300) rfl ((if0 _ _).trans (feq (by decide : ¬ ((1 : Int32) = (0 : Int32)))).1) ?_
      refine XS.iload X108.here hx rfl (hb hby at_303) rfl ?_
      refine XS.ifNo X108.here hx rfl (hb hby at_305) rfl ((if0 _ _).trans (feq (by decide : ¬ ((1 : Int32) = (0 : Int32)))).1) ?_
      refine XS.iconst X108.here hx rfl (hb hby at_308) ?_
      refine XS.goto X108.here hx rfl (pc0 := 309) (pc' := 313) rfl (hb hby at_309) (by decide) (by decide) ?_
      show Steps p.tables e below (T108.setTop (mkF m 313 #[.val (.int p1), .val (.int p2), .val (.int p3), .val (.int p4), .val (.int (own_s1 p3)), .val (.int (own_s2 p3)), .val .null, .val (.ref b2), .val (.ref b4), .val (.ref b6), .val (.ref b11), .val (.ref b20), .val (.int (1 : Int32)), .val (.ref b2), .val (.int (1 : Int32)), .val (.ref b89), .val (.int (own_max (own_s1 p3) (own_s2 p3))), .val (.long (own_U (p1.toInt64) (own_s1 p3) (p2.toInt64) (own_s2 p3))), .second, .val (.long (own_U (p1.toInt64) (own_s1 p3) (p2.toInt64) (own_s2 p3))), .second, .val (.int (own_max (own_s1 p3) (own_s2 p3))), .val (.int (1 : Int32)), .unset, .unset, .unset, .unset, .unset, .unset] [(.int (1 : Int32))])) _
      exact retN X108 hx (t := .boolean) Bd.returns (by simp) (hb hby at_313) hr
    · show Qrm0 Z p1 p2 p3 p4  h0 n0 _ T108.heap _
      rw [e108]
      exact ⟨rfl, N108⟩
theorem comes_1 {Post : Tables → Env → Array Value → State → Outcome → State → Prop} (hpost : ∀ tb e args s v u, (limb_1_1.after args s (.returned v) u = true ∧ limb_1_2.after args s (.returned v) u = true ∧ True) → FrameEnd s (.returned v) u (Jvm.fieldLocs frame_1_writes args s ++ Jvm.arrayLocs frame_1_arrays args s ++ Jvm.staticLocs frame_1_statics s) 32 192 → Post tb e args s (.returned v) u) :
    ArmFor flags0 classFile x code maxLocals ret World_1 tables_1 room_1 Calls_1 rest_1 Pre_1 Post := by
  intro l hfl _ _ p e ha hc hk s m args below hf hA hF happ hP
  obtain ⟨hcalls, hrest, hpre⟩ := hP
  obtain ⟨-, -, -, hnamed, -, -, -, hat⟩ := (Spec.applies_iff hf).mp happ
  obtain ⟨hg, hn⟩ := and_e (Cond.before_iff.mp (show (Jvm.Cond.and given_1 narrow_1).before args s = true from hpre))
  obtain ⟨gv1, gv2⟩ := and_e hg
  obtain ⟨gv3, gv4⟩ := and_e gv2
  obtain ⟨gv5, gv6⟩ := and_e gv4
  obtain ⟨gv7, gv8⟩ := and_e gv6
  obtain ⟨w0, w1, w2, w3, rfl⟩ : ∃ w0 w1 w2 w3 : Value, args = #[w0, w1, w2, w3] := by
    have hs : args.size = 4 := by simpa [Cond.value, given_1] using gv1
    obtain ⟨L⟩ := args
    match L, hs with
    | [w0, w1, w2, w3], _ => exact ⟨w0, w1, w2, w3, rfl⟩
  have hw := fun d (hd : d ∈ tables_1) => atoms_spec (ws := Jvm.Cond.code x code maxLocals ret :: tables_1) hat d (List.mem_cons_of_mem _ hd)
  have hfit : Fit s := fun {y c} hc i hi => by
    obtain ⟨ha, rfl⟩ := Array.getElem?_eq_some_iff.mp hc
    have q := List.all_eq_true.mp ((Array.all_eq_true_iff_forall_mem.mp hF) _ (Array.getElem_mem ha)) i (List.mem_range.mpr hi)
    simpa [Array.getElem?_eq_getElem hi] using q
  obtain ⟨hsets, hown0⟩ := atoms_of _ (rest_1_c_eq ▸ (show rest_1_c.before _ s = true from hrest))
  have hr0 := Cond.before_iff.mp hown0
  obtain ⟨i0, ei0⟩ := is_v gv3
  obtain rfl : w0 = (.int i0) := Option.some.inj ei0
  obtain ⟨i1, ei1⟩ := is_v gv5
  obtain rfl : w1 = (.int i1) := Option.some.inj ei1
  obtain ⟨i2, ei2⟩ := is_v gv7
  obtain rfl : w2 = (.int i2) := Option.some.inj ei2
  obtain ⟨i3, ei3⟩ := is_v gv8
  obtain rfl : w3 = (.int i3) := Option.some.inj ei3
  have J := own_Jof hw hsets
  obtain ⟨n, o, h1, h2, h3, _, L, rfl, ⟨rfl, N⟩, hq⟩ := rm0 l s _ hw tables_1 i0 i1 i2 i3  s.heap s.heap.size (Nat.le_refl _) J (Old.start s) p e ha hc hk s m _ below hf ((Spec.applies_iff_loose hf).mp happ).1 ⟨rfl, State.Warmed39.refl s, rfl⟩ trivial
  refine ⟨n, _, h1, h2, h3, hpost _ _ _ _ _ _ ⟨Cond.after_iff.mpr rfl, Cond.after_iff.mpr (eq_i res_at (Term.int_eval (1)) rfl), trivial⟩ ⟨hq.1, hq.2.1, (hq.2.2.sift fun y hy => Or.inr (N y hy)).mono (by decide) (by decide)⟩⟩
theorem main_1_1 : Claimed_1_1 := comes_1 fun _ _ _ _ _ _ h hF => ⟨h.1, hF⟩
theorem main_1_2 : Claimed_1_2 := comes_1 fun _ _ _ _ _ _ h hF => ⟨h.2.1, hF⟩
end Jvm.Pilot.@@N@@
namespace Jvm.Pilot.@@N@@
open Jvm Jvm.ClassFile Sem Op Lib Jvm.Free Jvm.Stand Jvm.Pilot.@@N@@.Jvm.D
/-! MADE BY PROGRAM (witnessworld.py) out of the Statement's table words and the real class files: 30 classes; the members and pool entries that the words name. The judged class is class 1, her method 2. -/
namespace start1
open Jvm.ClassFile
def u (s : String) : CpInfo := .utf8 (stringToUtf16 s)
/-- a pool by its gaps: so many unusable entries, then the entry; so many at the end -/
def gap : Nat → List CpInfo → List CpInfo
  | 0, r => r
  | n + 1, r => .unusable :: gap n r
def poolList (es : List (Nat × CpInfo)) (last : Nat) : List CpInfo := es.foldr (fun e r => gap e.1 (e.2 :: r)) (gap last [])
def pool (es : List (Nat × CpInfo)) (last : Nat) : Array CpInfo := ⟨poolList es last⟩
def fileOf (pool : Array CpInfo) (this : Nat) (attrs : Array Attribute := #[]) (ms : Array MethodInfo := #[]) (fl : Nat := 33) (sup : Nat := 0) (ifs : Array Nat := #[]) (fds : Array FieldInfo := #[]) : ClassFile where
  minorVersion := 0
  majorVersion := 65
  constantPool := pool
  accessFlags := fl
  thisClass := this
  superClass := sup
  interfaces := ifs
  fields := fds
  methods := ms
  attributes := attrs
def plain (name : String) (sup : Option ClassId) : Class where
  name := name
  kind := .ordinary
  loader := none
  accessFlags := 33
  super := sup
  interfaces := #[]
  cf := none
  fields := #[]
  methods := #[]
  instanceTypes := #[]
  staticTypes := #[]
  resolved := #[]
  callSites := []
  init := .initialized
  statics := none
  mirror := none

def pool0 : Array CpInfo := pool [(5, u "<init>"), (0, u "()V"), (1, .class_ 10), (1, u "java/lang/Object")] 113

def k0c0 : Code := { maxStack := 0, maxLocals := 1, code := object_method_1_code, exceptionTable := #[], attributes := #[] }
def k0m0 : Method := { name := "<init>", desc := "()V", sig := { parameters := [], returnType := none }, accessFlags := 1, code := some k0c0 }
/-- java/lang/Object -/
def k0 : Class := { plain "java/lang/Object" none with
  accessFlags := 33
  interfaces := #[]
  cf := some (fileOf pool0 8 #[] #[{ accessFlags := 1, nameIndex := 5, descriptorIndex := 6, attributes := #[] }] 33 0 #[] #[])
  fields := #[]
  methods := #[k0m0]
  instanceTypes := #[]
  staticTypes := #[]
  resolved := Array.replicate 124 none
  statics := none }

def pool1 : Array CpInfo := pool [(2, .class_ 4), (1, u "java/lang/Object"), (0, u "<init>"), (0, u "()V"), (0, .long 10), (1, .long 100), (1, .long 1000), (1, .long 10000), (1, .long 100000), (1, .long 1000000), (1, .long 10000000), (1, .methodref 22 23), (0, .class_ 24), (0, .nameAndType 25 26), (0, u "java/lang/Integer"), (0, u "valueOf"), (0, u "(I)Ljava/lang/Integer;"), (0, .methodref 28 29), (0, .class_ 30), (0, .nameAndType 25 31), (0, u "java/math/BigDecimal"), (0, u "(JI)Ljava/math/BigDecimal;"), (0, .class_ 33), (0, u "com/example/tipple/tipple/Arithmetic"), (0, .methodref 32 35), (0, .nameAndType 5 36), (0, u "(Ljava/lang/Integer;)V"), (0, .class_ 38), (0, u "com/example/tipple/tipple/Arithmetic$RunningSum"), (0, .methodref 40 41), (0, .class_ 42), (0, .nameAndType 43 44), (0, u "java/util/Objects"), (0, u "requireNonNull"), (0, u "(Ljava/lang/Object;)Ljava/lang/Object;"), (0, .methodref 37 46), (0, .nameAndType 5 47), (0, u "(Lcom/example/tipple/tipple/Arithmetic;)V"), (0, .methodref 37 49), (0, .nameAndType 50 51), (0, u "value"), (0, u "()Ljava/math/BigDecimal;"), (0, .methodref 28 53), (0, .nameAndType 54 55), (0, u "equals"), (0, u "(Ljava/lang/Object;)Z"), (0, .methodref 37 57), (0, .nameAndType 58 59), (0, u "add"), (0, u "(Ljava/math/BigDecimal;)V"), (0, .methodref 61 62), (0, .class_ 63), (0, .nameAndType 64 65), (0, u "java/lang/Math"), (0, u "max"), (0, u "(II)I"), (0, .methodref 67 68), (0, .class_ 69), (0, .nameAndType 70 71), (0, u "com/example/tipple/tipple/RunningSumValuePinLaw"), (0, u "pow10"), (0, u "(I)J"), (0, .methodref 22 73), (0, .nameAndType 74 75), (0, u "intValue"), (0, u "()I"), (0, .methodref 61 77), (0, .nameAndType 78 79), (0, u "abs"), (0, u "(J)J"), (0, .long 2), (1, .long 18446744073709551615), (3, u "law"), (0, u "(IIII)Z")] 5

def k1m0 : Method := { name := "<init>", desc := "()V", sig := { parameters := [], returnType := none }, accessFlags := 1, code := none }
def k1c1 : Code := { maxStack := 5, maxLocals := 2, code := method_2_code, exceptionTable := #[], attributes := #[] }
def k1m1 : Method := { name := "pow10", desc := "(I)J", sig := { parameters := [.int], returnType := some .long }, accessFlags := 10, code := some k1c1 }
def k1c2 : Code := { maxStack := 6, maxLocals := 29, code := code, exceptionTable := #[], attributes := #[] }
def k1m2 : Method := { name := "law", desc := "(IIII)Z", sig := { parameters := [.int, .int, .int, .int], returnType := some .boolean }, accessFlags := 9, code := some k1c2 }
/-- com/example/tipple/tipple/RunningSumValuePinLaw -/
def k1 : Class := { plain "com/example/tipple/tipple/RunningSumValuePinLaw" (some 0) with
  accessFlags := 49
  interfaces := #[]
  cf := some (fileOf pool1 67 #[] #[{ accessFlags := 1, nameIndex := 5, descriptorIndex := 6, attributes := #[] }, { accessFlags := 10, nameIndex := 70, descriptorIndex := 71, attributes := #[] }, { accessFlags := 9, nameIndex := 86, descriptorIndex := 87, attributes := #[] }] 49 2 #[] #[])
  fields := #[]
  methods := #[k1m0, k1m1, k1m2]
  instanceTypes := #[]
  staticTypes := #[]
  resolved := Array.replicate 93 none
  statics := none }

def pool2 : Array CpInfo := pool [(1, .class_ 2), (0, u "java/io/Serializable"), (0, .class_ 4), (0, u "java/lang/Object")] 2

/-- java/io/Serializable -/
def k2 : Class := { plain "java/io/Serializable" (some 0) with
  accessFlags := 1537
  interfaces := #[]
  cf := some (fileOf pool2 1 #[] #[] 1537 3 #[] #[])
  fields := #[]
  methods := #[]
  instanceTypes := #[]
  staticTypes := #[]
  resolved := Array.replicate 7 none
  statics := none }

def pool3 : Array CpInfo := pool [(1, .methodref 2 3), (0, .class_ 4), (0, .nameAndType 5 6), (0, u "java/lang/Object"), (0, u "<init>"), (0, u "()V"), (1, .class_ 10), (1, u "java/lang/Number"), (2, .class_ 14), (0, u "java/io/Serializable"), (0, u "serialVersionUID"), (0, u "J")] 20

def k3c0 : Code := { maxStack := 1, maxLocals := 1, code := jdk_18_method_1_code, exceptionTable := #[], attributes := #[] }
def k3m0 : Method := { name := "<init>", desc := "()V", sig := { parameters := [], returnType := none }, accessFlags := 1, code := some k3c0 }
/-- java/lang/Number -/
def k3 : Class := { plain "java/lang/Number" (some 0) with
  accessFlags := 1057
  interfaces := #[2]
  cf := some (fileOf pool3 8 #[] #[{ accessFlags := 1, nameIndex := 5, descriptorIndex := 6, attributes := #[] }] 1057 2 #[13] #[{ accessFlags := 26, nameIndex := 15, descriptorIndex := 16, attributes := #[] }])
  fields := #[{ name := "serialVersionUID", type := .long, accessFlags := 26, slot := 0, constantValue := 0 }]
  methods := #[k3m0]
  instanceTypes := #[]
  staticTypes := #[.long]
  resolved := Array.replicate 37 none
  statics := none }

def pool4 : Array CpInfo := pool [(1, .class_ 2), (0, u "java/lang/Comparable"), (0, .class_ 4), (0, u "java/lang/Object")] 7

/-- java/lang/Comparable -/
def k4 : Class := { plain "java/lang/Comparable" (some 0) with
  accessFlags := 1537
  interfaces := #[]
  cf := some (fileOf pool4 1 #[] #[] 1537 3 #[] #[])
  fields := #[]
  methods := #[]
  instanceTypes := #[]
  staticTypes := #[]
  resolved := Array.replicate 12 none
  statics := none }

def pool5 : Array CpInfo := pool [(1, .class_ 2), (0, u "java/lang/constant/Constable"), (0, .class_ 4), (0, u "java/lang/Object")] 6

/-- java/lang/constant/Constable -/
def k5 : Class := { plain "java/lang/constant/Constable" (some 0) with
  accessFlags := 1537
  interfaces := #[]
  cf := some (fileOf pool5 1 #[] #[] 1537 3 #[] #[])
  fields := #[]
  methods := #[]
  instanceTypes := #[]
  staticTypes := #[]
  resolved := Array.replicate 11 none
  statics := none }

def pool6 : Array CpInfo := pool [(1, .class_ 2), (0, u "java/lang/constant/ConstantDesc"), (0, .class_ 4), (0, u "java/lang/Object")] 32

/-- java/lang/constant/ConstantDesc -/
def k6 : Class := { plain "java/lang/constant/ConstantDesc" (some 0) with
  accessFlags := 1537
  interfaces := #[]
  cf := some (fileOf pool6 1 #[] #[] 1537 3 #[] #[])
  fields := #[]
  methods := #[]
  instanceTypes := #[]
  staticTypes := #[]
  resolved := Array.replicate 37 none
  statics := none }

def pool7 : Array CpInfo := pool [(1, .class_ 2), (0, u "java/lang/Integer"), (16, u "digits"), (0, u "[C"), (32, u "numberOfLeadingZeros"), (0, u "(I)I"), (30, u "DigitOnes"), (0, u "[B"), (2, u "DigitTens"), (31, u "()I"), (65, u "valueOf"), (0, u "(I)Ljava/lang/Integer;"), (0, .class_ 190), (0, u "java/lang/Integer$IntegerCache"), (0, .fieldref 189 192), (0, .nameAndType 193 194), (0, u "high"), (0, u "I"), (0, .fieldref 189 196), (0, .nameAndType 197 198), (0, u "cache"), (0, u "[Ljava/lang/Integer;"), (4, .class_ 204), (0, u "java/lang/Number"), (0, .fieldref 1 206), (0, .nameAndType 207 194), (0, u "value"), (5, u "intValue"), (50, .integer 65536), (37, u "TYPE"), (0, u "Ljava/lang/Class;"), (0, .class_ 305), (0, u "java/lang/Comparable"), (0, .class_ 307), (0, u "java/lang/constant/Constable"), (0, .class_ 309), (0, u "java/lang/constant/ConstantDesc"), (0, u "MIN_VALUE"), (1, u "MAX_VALUE"), (3, u "SIZE"), (1, u "BYTES"), (1, u "serialVersionUID"), (0, u "J")] 131

def k7c0 : Code := { maxStack := 3, maxLocals := 1, code := jdk_33_method_22_code, exceptionTable := #[], attributes := #[] }
def k7m0 : Method := { name := "valueOf", desc := "(I)Ljava/lang/Integer;", sig := { parameters := [.int], returnType := some (.object "java/lang/Integer") }, accessFlags := 9, code := some k7c0 }
def k7c1 : Code := { maxStack := 1, maxLocals := 1, code := jdk_33_method_27_code, exceptionTable := #[], attributes := #[] }
def k7m1 : Method := { name := "intValue", desc := "()I", sig := { parameters := [], returnType := some .int }, accessFlags := 1, code := some k7c1 }
def k7c2 : Code := { maxStack := 3, maxLocals := 2, code := jdk_33_method_47_code, exceptionTable := #[], attributes := #[] }
def k7m2 : Method := { name := "numberOfLeadingZeros", desc := "(I)I", sig := { parameters := [.int], returnType := some .int }, accessFlags := 9, code := some k7c2 }
/-- java/lang/Integer -/
def k7 : Class := { plain "java/lang/Integer" (some 3) with
  accessFlags := 49
  interfaces := #[4, 5, 6]
  cf := some (fileOf pool7 1 #[.nestMembers #[189]] #[{ accessFlags := 9, nameIndex := 187, descriptorIndex := 188, attributes := #[] }, { accessFlags := 1, nameIndex := 213, descriptorIndex := 121, attributes := #[] }, { accessFlags := 9, nameIndex := 53, descriptorIndex := 54, attributes := #[] }] 49 203 #[304, 306, 308] #[{ accessFlags := 25, nameIndex := 310, descriptorIndex := 194, attributes := #[] }, { accessFlags := 25, nameIndex := 312, descriptorIndex := 194, attributes := #[] }, { accessFlags := 25, nameIndex := 302, descriptorIndex := 303, attributes := #[] }, { accessFlags := 24, nameIndex := 19, descriptorIndex := 20, attributes := #[] }, { accessFlags := 24, nameIndex := 89, descriptorIndex := 86, attributes := #[] }, { accessFlags := 24, nameIndex := 85, descriptorIndex := 86, attributes := #[] }, { accessFlags := 18, nameIndex := 207, descriptorIndex := 194, attributes := #[] }, { accessFlags := 25, nameIndex := 316, descriptorIndex := 194, attributes := #[] }, { accessFlags := 25, nameIndex := 318, descriptorIndex := 194, attributes := #[] }, { accessFlags := 26, nameIndex := 320, descriptorIndex := 321, attributes := #[] }])
  fields := #[{ name := "MIN_VALUE", type := .int, accessFlags := 25, slot := 0, constantValue := 0 }, { name := "MAX_VALUE", type := .int, accessFlags := 25, slot := 1, constantValue := 0 }, { name := "TYPE", type := (.object "java/lang/Class"), accessFlags := 25, slot := 2, constantValue := 0 }, { name := "digits", type := (.array .char), accessFlags := 24, slot := 3, constantValue := 0 }, { name := "DigitTens", type := (.array .byte), accessFlags := 24, slot := 4, constantValue := 0 }, { name := "DigitOnes", type := (.array .byte), accessFlags := 24, slot := 5, constantValue := 0 }, { name := "value", type := .int, accessFlags := 18, slot := 0, constantValue := 0 }, { name := "SIZE", type := .int, accessFlags := 25, slot := 6, constantValue := 0 }, { name := "BYTES", type := .int, accessFlags := 25, slot := 7, constantValue := 0 }, { name := "serialVersionUID", type := .long, accessFlags := 26, slot := 8, constantValue := 0 }]
  methods := #[k7m0, k7m1, k7m2]
  instanceTypes := #[.int]
  staticTypes := #[.int, .int, (.object "java/lang/Class"), (.array .char), (.array .byte), (.array .byte), .int, .int, .long]
  resolved := Array.replicate 453 none
  statics := none }

def pool8 : Array CpInfo := pool [(2, .class_ 4), (1, u "java/lang/Object"), (0, u "<init>"), (0, u "()V"), (0, .class_ 8), (0, u "java/lang/Integer"), (7, .class_ 18), (1, u "java/lang/Integer$IntegerCache"), (0, u "$assertionsDisabled"), (0, u "Z"), (26, u "high"), (0, u "I"), (8, u "archivedCache"), (0, u "[Ljava/lang/Integer;"), (12, u "cache"), (0, u "low")] 27

def k8m0 : Method := { name := "<init>", desc := "()V", sig := { parameters := [], returnType := none }, accessFlags := 2, code := none }
/-- java/lang/Integer$IntegerCache -/
def k8 : Class := { plain "java/lang/Integer$IntegerCache" (some 0) with
  accessFlags := 48
  interfaces := #[]
  cf := some (fileOf pool8 16 #[.nestHost 7] #[{ accessFlags := 2, nameIndex := 5, descriptorIndex := 6, attributes := #[] }] 48 2 #[] #[{ accessFlags := 24, nameIndex := 72, descriptorIndex := 48, attributes := #[] }, { accessFlags := 24, nameIndex := 47, descriptorIndex := 48, attributes := #[] }, { accessFlags := 24, nameIndex := 71, descriptorIndex := 58, attributes := #[] }, { accessFlags := 8, nameIndex := 57, descriptorIndex := 58, attributes := #[] }, { accessFlags := 4120, nameIndex := 19, descriptorIndex := 20, attributes := #[] }])
  fields := #[{ name := "low", type := .int, accessFlags := 24, slot := 0, constantValue := 0 }, { name := "high", type := .int, accessFlags := 24, slot := 1, constantValue := 0 }, { name := "cache", type := (.array (.object "java/lang/Integer")), accessFlags := 24, slot := 2, constantValue := 0 }, { name := "archivedCache", type := (.array (.object "java/lang/Integer")), accessFlags := 8, slot := 3, constantValue := 0 }, { name := "$assertionsDisabled", type := .boolean, accessFlags := 4120, slot := 4, constantValue := 0 }]
  methods := #[k8m0]
  instanceTypes := #[]
  staticTypes := #[.int, .int, (.array (.object "java/lang/Integer")), (.array (.object "java/lang/Integer")), .boolean]
  resolved := Array.replicate 100 none
  statics := some 0 }

def pool9 : Array CpInfo := pool [(3, .class_ 4), (0, u "java/math/BigDecimal"), (2, .class_ 8), (0, u "java/lang/Long"), (0, .class_ 10), (0, u "java/math/BigInteger"), (0, .methodref 12 13), (0, .class_ 14), (0, .nameAndType 15 16), (0, u "java/lang/Number"), (0, u "<init>"), (0, u "()V"), (0, .fieldref 3 18), (0, .nameAndType 19 20), (0, u "scale"), (0, u "I"), (0, .fieldref 3 22), (0, .nameAndType 23 20), (0, u "precision"), (0, .fieldref 3 25), (0, .nameAndType 26 27), (0, u "intCompact"), (0, u "J"), (0, .fieldref 3 29), (0, .nameAndType 30 31), (0, u "intVal"), (0, u "Ljava/math/BigInteger;"), (24, .long 10), (38, .fieldref 3 96), (0, .nameAndType 97 98), (0, u "LONG_TEN_POWERS_TABLE"), (0, u "[J"), (4, .fieldref 104 105), (0, .class_ 106), (0, .nameAndType 107 20), (0, u "java/math/RoundingMode"), (0, u "oldMode"), (2, u "divideAndRound"), (1, .methodref 3 113), (0, .nameAndType 114 115), (0, u "longDigitLength"), (0, u "(J)I"), (9, .long 9223372036854775808), (36, u "()I"), (22, .fieldref 9 186), (0, .nameAndType 187 31), (0, u "ZERO"), (2, u "INFLATED_BIGINT"), (4, u "valueOf"), (10, u "TWO"), (29, .methodref 3 237), (0, .nameAndType 195 238), (0, u "(J)Ljava/math/BigDecimal;"), (0, .methodref 3 240), (0, .nameAndType 241 242), (0, u "zeroValueOf"), (0, u "(I)Ljava/math/BigDecimal;"), (0, .methodref 3 244), (0, .nameAndType 15 245), (0, u "(Ljava/math/BigInteger;JII)V"), (0, .fieldref 3 247), (0, .nameAndType 248 249), (0, u "ZERO_THROUGH_TEN"), (0, u "[Ljava/math/BigDecimal;"), (0, .fieldref 3 251), (0, .nameAndType 252 249), (0, u "ZERO_SCALED_BY"), (4, .methodref 3 258), (0, .nameAndType 259 260), (0, u "add"), (0, u "(JIJI)Ljava/math/BigDecimal;"), (8, u "(Ljava/math/BigDecimal;)Ljava/math/BigDecimal;"), (0, .methodref 3 271), (0, .nameAndType 272 162), (0, u "signum"), (3, .class_ 278), (1, u "java/lang/Math"), (10, .methodref 3 290), (0, .nameAndType 23 162), (2, u "setScale"), (17, .fieldref 3 312), (0, .nameAndType 313 314), (0, u "$assertionsDisabled"), (0, u "Z"), (3, .long 2), (3, u "(JJ)J"), (2, .methodref 3 326), (0, .nameAndType 327 115), (0, u "checkScale"), (0, .methodref 3 329), (0, .nameAndType 195 330), (0, u "(JI)Ljava/math/BigDecimal;"), (13, u "(JJI)Ljava/math/BigDecimal;"), (74, .methodref 3 420), (0, .nameAndType 293 421), (0, u "(II)Ljava/math/BigDecimal;"), (14, .methodref 3 437), (0, .nameAndType 438 439), (0, u "compareMagnitude"), (0, u "(Ljava/math/BigDecimal;)I"), (0, .methodref 276 441), (0, .nameAndType 442 443), (0, u "abs"), (0, u "(J)J"), (5, u "(ILjava/math/RoundingMode;)Ljava/math/BigDecimal;"), (28, u "ONE_TENTH"), (0, u "Ljava/math/BigDecimal;"), (2, u "compareTo"), (2, u "TEN"), (14, .class_ 502), (1, u "java/math/BigDecimal$1"), (15, u "ONE_HALF"), (16, u "ONE"), (18, u "equals"), (0, u "(Ljava/lang/Object;)Z"), (40, .methodref 7 597), (0, .nameAndType 272 115), (1, .methodref 3 600), (0, .nameAndType 601 602), (0, u "longMultiplyPowerTen"), (0, u "(JI)J"), (3, .methodref 3 607), (0, .nameAndType 110 608), (0, u "(JJIII)Ljava/math/BigDecimal;"), (19, .long 18446744071562067968), (3, .methodref 3 633), (0, .nameAndType 634 635), (0, u "longCompareMagnitude"), (0, u "(JJ)I"), (7, u "stringCache"), (0, u "Ljava/lang/String;"), (52, .class_ 699), (1, u "java/math/BigDecimal$LongOverflow"), (8, u "FLOAT_10_POW"), (0, u "[F"), (30, u "numberOfLeadingZeros"), (8, u "DOUBLE_10_POW"), (0, u "[D"), (10, .methodref 7 762), (0, .nameAndType 740 115), (7, .class_ 772), (1, u "java/math/BigDecimal$StringBuilderHelper"), (35, u "BIG_TEN_POWERS_TABLE_MAX"), (2, u "BIG_TEN_POWERS_TABLE"), (0, u "[Ljava/math/BigInteger;"), (12, .fieldref 3 826), (0, .nameAndType 827 98), (0, u "THRESHOLDS_TABLE"), (23, .class_ 853), (1, u "java/math/BigDecimal$UnsafeHolder"), (27, .methodref 7 882), (0, .nameAndType 883 635), (0, u "compare"), (40, .methodref 3 925), (0, .nameAndType 926 927), (0, u "needIncrement"), (0, u "(JIIJJ)Z"), (5, .long 13835058055282163712), (1, .long 4611686018427387903), (1, .methodref 3 938), (0, .nameAndType 939 940), (0, u "commonNeedIncrement"), (0, u "(IIIZ)Z"), (53, .methodref 3 995), (0, .nameAndType 327 635), (0, .methodref 3 997), (0, .nameAndType 259 322), (2, .methodref 3 1001), (0, .nameAndType 259 344), (66, u "LONGLONG_TEN_POWERS_TABLE"), (0, u "[[J"), (112, u "BIG_TEN_POWERS_TABLE_INITLEN"), (113, .class_ 1297), (0, u "java/lang/Comparable"), (0, u "L"), (0, u "D"), (1, u "P_F"), (1, u "Q_MIN_F"), (1, u "Q_MAX_F"), (1, u "P_D"), (1, u "Q_MIN_D"), (1, u "Q_MAX_D"), (1, u "INFLATED"), (0, u "MAX_COMPACT_DIGITS"), (1, u "serialVersionUID"), (2, u "HALF_LONG_MAX_VALUE"), (0, u "HALF_LONG_MIN_VALUE"), (0, u "ROUND_UP"), (6, u "ROUND_DOWN"), (1, u "ROUND_CEILING"), (1, u "ROUND_FLOOR"), (1, u "ROUND_HALF_UP"), (1, u "ROUND_HALF_DOWN"), (1, u "ROUND_HALF_EVEN"), (1, u "ROUND_UNNECESSARY"), (1, u "DIV_NUM_BASE")] 294

def k9c0 : Code := { maxStack := 3, maxLocals := 6, code := jdk_17_method_1_code, exceptionTable := #[], attributes := #[] }
def k9m0 : Method := { name := "<init>", desc := "(Ljava/math/BigInteger;JII)V", sig := { parameters := [(.object "java/math/BigInteger"), .long, .int, .int], returnType := none }, accessFlags := 0, code := some k9c0 }
def k9c1 : Code := { maxStack := 7, maxLocals := 3, code := jdk_17_method_20_code, exceptionTable := #[], attributes := #[] }
def k9m1 : Method := { name := "valueOf", desc := "(JI)Ljava/math/BigDecimal;", sig := { parameters := [.long, .int], returnType := some (.object "java/math/BigDecimal") }, accessFlags := 9, code := some k9c1 }
def k9c2 : Code := { maxStack := 7, maxLocals := 2, code := jdk_17_method_21_code, exceptionTable := #[], attributes := #[] }
def k9m2 : Method := { name := "valueOf", desc := "(J)Ljava/math/BigDecimal;", sig := { parameters := [.long], returnType := some (.object "java/math/BigDecimal") }, accessFlags := 9, code := some k9c2 }
def k9c3 : Code := { maxStack := 7, maxLocals := 1, code := jdk_17_method_24_code, exceptionTable := #[], attributes := #[] }
def k9m3 : Method := { name := "zeroValueOf", desc := "(I)Ljava/math/BigDecimal;", sig := { parameters := [.int], returnType := some (.object "java/math/BigDecimal") }, accessFlags := 8, code := some k9c3 }
def k9c4 : Code := { maxStack := 6, maxLocals := 2, code := jdk_17_method_26_code, exceptionTable := #[], attributes := #[] }
def k9m4 : Method := { name := "add", desc := "(Ljava/math/BigDecimal;)Ljava/math/BigDecimal;", sig := { parameters := [(.object "java/math/BigDecimal")], returnType := some (.object "java/math/BigDecimal") }, accessFlags := 1, code := some k9c4 }
def k9c5 : Code := { maxStack := 4, maxLocals := 1, code := jdk_17_method_58_code, exceptionTable := #[], attributes := #[] }
def k9m5 : Method := { name := "signum", desc := "()I", sig := { parameters := [], returnType := some .int }, accessFlags := 1, code := some k9c5 }
def k9c6 : Code := { maxStack := 1, maxLocals := 1, code := jdk_17_method_59_code, exceptionTable := #[], attributes := #[] }
def k9m6 : Method := { name := "scale", desc := "()I", sig := { parameters := [], returnType := some .int }, accessFlags := 1, code := some k9c6 }
def k9c7 : Code := { maxStack := 4, maxLocals := 4, code := jdk_17_method_60_code, exceptionTable := #[], attributes := #[] }
def k9m7 : Method := { name := "precision", desc := "()I", sig := { parameters := [], returnType := some .int }, accessFlags := 1, code := some k9c7 }
def k9c8 : Code := { maxStack := 3, maxLocals := 3, code := jdk_17_method_63_code, exceptionTable := #[], attributes := #[] }
def k9m8 : Method := { name := "setScale", desc := "(ILjava/math/RoundingMode;)Ljava/math/BigDecimal;", sig := { parameters := [.int, (.object "java/math/RoundingMode")], returnType := some (.object "java/math/BigDecimal") }, accessFlags := 1, code := some k9c8 }
def k9c9 : Code := { maxStack := 8, maxLocals := 8, code := jdk_17_method_64_code, exceptionTable := #[], attributes := #[] }
def k9m9 : Method := { name := "setScale", desc := "(II)Ljava/math/BigDecimal;", sig := { parameters := [.int, .int], returnType := some (.object "java/math/BigDecimal") }, accessFlags := 1, code := some k9c9 }
def k9c10 : Code := { maxStack := 4, maxLocals := 6, code := jdk_17_method_70_code, exceptionTable := #[], attributes := #[] }
def k9m10 : Method := { name := "compareTo", desc := "(Ljava/math/BigDecimal;)I", sig := { parameters := [(.object "java/math/BigDecimal")], returnType := some .int }, accessFlags := 1, code := some k9c10 }
def k9c11 : Code := { maxStack := 4, maxLocals := 13, code := jdk_17_method_71_code, exceptionTable := #[], attributes := #[] }
def k9m11 : Method := { name := "compareMagnitude", desc := "(Ljava/math/BigDecimal;)I", sig := { parameters := [(.object "java/math/BigDecimal")], returnType := some .int }, accessFlags := 2, code := some k9c11 }
def k9c12 : Code := { maxStack := 4, maxLocals := 7, code := jdk_17_method_72_code, exceptionTable := #[], attributes := #[] }
def k9m12 : Method := { name := "equals", desc := "(Ljava/lang/Object;)Z", sig := { parameters := [(.object "java/lang/Object")], returnType := some .boolean }, accessFlags := 1, code := some k9c12 }
def k9c13 : Code := { maxStack := 4, maxLocals := 7, code := jdk_17_method_97_code, exceptionTable := #[], attributes := #[] }
def k9m13 : Method := { name := "longMultiplyPowerTen", desc := "(JI)J", sig := { parameters := [.long, .int], returnType := some .long }, accessFlags := 10, code := some k9c13 }
def k9c14 : Code := { maxStack := 4, maxLocals := 4, code := jdk_17_method_104_code, exceptionTable := #[], attributes := #[] }
def k9m14 : Method := { name := "longDigitLength", desc := "(J)I", sig := { parameters := [.long], returnType := some .int }, accessFlags := 8, code := some k9c14 }
def k9c15 : Code := { maxStack := 4, maxLocals := 5, code := jdk_17_method_106_code, exceptionTable := #[], attributes := #[] }
def k9m15 : Method := { name := "checkScale", desc := "(J)I", sig := { parameters := [.long], returnType := some .int }, accessFlags := 2, code := some k9c15 }
def k9c16 : Code := { maxStack := 4, maxLocals := 4, code := jdk_17_method_108_code, exceptionTable := #[], attributes := #[] }
def k9m16 : Method := { name := "longCompareMagnitude", desc := "(JJ)I", sig := { parameters := [.long, .long], returnType := some .int }, accessFlags := 10, code := some k9c16 }
def k9c17 : Code := { maxStack := 4, maxLocals := 5, code := jdk_17_method_113_code, exceptionTable := #[], attributes := #[] }
def k9m17 : Method := { name := "checkScale", desc := "(JJ)I", sig := { parameters := [.long, .long], returnType := some .int }, accessFlags := 10, code := some k9c17 }
def k9c18 : Code := { maxStack := 8, maxLocals := 13, code := jdk_17_method_119_code, exceptionTable := #[], attributes := #[] }
def k9m18 : Method := { name := "divideAndRound", desc := "(JJIII)Ljava/math/BigDecimal;", sig := { parameters := [.long, .long, .int, .int, .int], returnType := some (.object "java/math/BigDecimal") }, accessFlags := 10, code := some k9c18 }
def k9c19 : Code := { maxStack := 4, maxLocals := 4, code := jdk_17_method_121_code, exceptionTable := #[], attributes := #[] }
def k9m19 : Method := { name := "commonNeedIncrement", desc := "(IIIZ)Z", sig := { parameters := [.int, .int, .int, .boolean], returnType := some .boolean }, accessFlags := 10, code := some k9c19 }
def k9c20 : Code := { maxStack := 7, maxLocals := 9, code := jdk_17_method_122_code, exceptionTable := #[], attributes := #[] }
def k9m20 : Method := { name := "needIncrement", desc := "(JIIJJ)Z", sig := { parameters := [.long, .int, .int, .long, .long], returnType := some .boolean }, accessFlags := 10, code := some k9c20 }
def k9c21 : Code := { maxStack := 6, maxLocals := 6, code := jdk_17_method_132_code, exceptionTable := #[], attributes := #[] }
def k9m21 : Method := { name := "add", desc := "(JJ)J", sig := { parameters := [.long, .long], returnType := some .long }, accessFlags := 10, code := some k9c21 }
def k9c22 : Code := { maxStack := 5, maxLocals := 7, code := jdk_17_method_133_code, exceptionTable := #[], attributes := #[] }
def k9m22 : Method := { name := "add", desc := "(JJI)Ljava/math/BigDecimal;", sig := { parameters := [.long, .long, .int], returnType := some (.object "java/math/BigDecimal") }, accessFlags := 10, code := some k9c22 }
def k9c23 : Code := { maxStack := 7, maxLocals := 12, code := jdk_17_method_134_code, exceptionTable := #[], attributes := #[] }
def k9m23 : Method := { name := "add", desc := "(JIJI)Ljava/math/BigDecimal;", sig := { parameters := [.long, .int, .long, .int], returnType := some (.object "java/math/BigDecimal") }, accessFlags := 10, code := some k9c23 }
/-- java/math/BigDecimal -/
def k9 : Class := { plain "java/math/BigDecimal" (some 3) with
  accessFlags := 33
  interfaces := #[4]
  cf := some (fileOf pool9 3 #[.nestMembers #[500, 851, 770, 697]] #[{ accessFlags := 0, nameIndex := 15, descriptorIndex := 245, attributes := #[] }, { accessFlags := 9, nameIndex := 195, descriptorIndex := 330, attributes := #[] }, { accessFlags := 9, nameIndex := 195, descriptorIndex := 238, attributes := #[] }, { accessFlags := 8, nameIndex := 241, descriptorIndex := 242, attributes := #[] }, { accessFlags := 1, nameIndex := 259, descriptorIndex := 269, attributes := #[] }, { accessFlags := 1, nameIndex := 272, descriptorIndex := 162, attributes := #[] }, { accessFlags := 1, nameIndex := 19, descriptorIndex := 162, attributes := #[] }, { accessFlags := 1, nameIndex := 23, descriptorIndex := 162, attributes := #[] }, { accessFlags := 1, nameIndex := 293, descriptorIndex := 449, attributes := #[] }, { accessFlags := 1, nameIndex := 293, descriptorIndex := 421, attributes := #[] }, { accessFlags := 1, nameIndex := 482, descriptorIndex := 439, attributes := #[] }, { accessFlags := 2, nameIndex := 438, descriptorIndex := 439, attributes := #[] }, { accessFlags := 1, nameIndex := 554, descriptorIndex := 555, attributes := #[] }, { accessFlags := 10, nameIndex := 601, descriptorIndex := 602, attributes := #[] }, { accessFlags := 8, nameIndex := 114, descriptorIndex := 115, attributes := #[] }, { accessFlags := 2, nameIndex := 327, descriptorIndex := 115, attributes := #[] }, { accessFlags := 10, nameIndex := 634, descriptorIndex := 635, attributes := #[] }, { accessFlags := 10, nameIndex := 327, descriptorIndex := 635, attributes := #[] }, { accessFlags := 10, nameIndex := 110, descriptorIndex := 608, attributes := #[] }, { accessFlags := 10, nameIndex := 939, descriptorIndex := 940, attributes := #[] }, { accessFlags := 10, nameIndex := 926, descriptorIndex := 927, attributes := #[] }, { accessFlags := 10, nameIndex := 259, descriptorIndex := 322, attributes := #[] }, { accessFlags := 10, nameIndex := 259, descriptorIndex := 344, attributes := #[] }, { accessFlags := 10, nameIndex := 259, descriptorIndex := 260, attributes := #[] }] 33 12 #[1296] #[{ accessFlags := 26, nameIndex := 1298, descriptorIndex := 1299, attributes := #[] }, { accessFlags := 26, nameIndex := 1301, descriptorIndex := 20, attributes := #[] }, { accessFlags := 26, nameIndex := 1303, descriptorIndex := 20, attributes := #[] }, { accessFlags := 26, nameIndex := 1305, descriptorIndex := 20, attributes := #[] }, { accessFlags := 26, nameIndex := 1307, descriptorIndex := 20, attributes := #[] }, { accessFlags := 26, nameIndex := 1309, descriptorIndex := 20, attributes := #[] }, { accessFlags := 26, nameIndex := 1311, descriptorIndex := 20, attributes := #[] }, { accessFlags := 18, nameIndex := 30, descriptorIndex := 31, attributes := #[] }, { accessFlags := 18, nameIndex := 19, descriptorIndex := 20, attributes := #[] }, { accessFlags := 130, nameIndex := 23, descriptorIndex := 20, attributes := #[] }, { accessFlags := 130, nameIndex := 643, descriptorIndex := 644, attributes := #[] }, { accessFlags := 24, nameIndex := 1313, descriptorIndex := 27, attributes := #[] }, { accessFlags := 26, nameIndex := 190, descriptorIndex := 31, attributes := #[] }, { accessFlags := 146, nameIndex := 26, descriptorIndex := 27, attributes := #[] }, { accessFlags := 26, nameIndex := 1314, descriptorIndex := 20, attributes := #[] }, { accessFlags := 26, nameIndex := 1316, descriptorIndex := 27, attributes := #[] }, { accessFlags := 26, nameIndex := 248, descriptorIndex := 249, attributes := #[] }, { accessFlags := 26, nameIndex := 252, descriptorIndex := 249, attributes := #[] }, { accessFlags := 26, nameIndex := 1319, descriptorIndex := 27, attributes := #[] }, { accessFlags := 26, nameIndex := 1320, descriptorIndex := 27, attributes := #[] }, { accessFlags := 25, nameIndex := 187, descriptorIndex := 479, attributes := #[] }, { accessFlags := 25, nameIndex := 535, descriptorIndex := 479, attributes := #[] }, { accessFlags := 25, nameIndex := 206, descriptorIndex := 479, attributes := #[] }, { accessFlags := 25, nameIndex := 485, descriptorIndex := 479, attributes := #[] }, { accessFlags := 26, nameIndex := 478, descriptorIndex := 479, attributes := #[] }, { accessFlags := 26, nameIndex := 518, descriptorIndex := 479, attributes := #[] }, { accessFlags := 25, nameIndex := 1321, descriptorIndex := 20, attributes := #[] }, { accessFlags := 25, nameIndex := 1328, descriptorIndex := 20, attributes := #[] }, { accessFlags := 25, nameIndex := 1330, descriptorIndex := 20, attributes := #[] }, { accessFlags := 25, nameIndex := 1332, descriptorIndex := 20, attributes := #[] }, { accessFlags := 25, nameIndex := 1334, descriptorIndex := 20, attributes := #[] }, { accessFlags := 25, nameIndex := 1336, descriptorIndex := 20, attributes := #[] }, { accessFlags := 25, nameIndex := 1338, descriptorIndex := 20, attributes := #[] }, { accessFlags := 25, nameIndex := 1340, descriptorIndex := 20, attributes := #[] }, { accessFlags := 26, nameIndex := 749, descriptorIndex := 750, attributes := #[] }, { accessFlags := 26, nameIndex := 708, descriptorIndex := 709, attributes := #[] }, { accessFlags := 26, nameIndex := 97, descriptorIndex := 98, attributes := #[] }, { accessFlags := 74, nameIndex := 811, descriptorIndex := 812, attributes := #[] }, { accessFlags := 26, nameIndex := 1182, descriptorIndex := 20, attributes := #[] }, { accessFlags := 26, nameIndex := 808, descriptorIndex := 20, attributes := #[] }, { accessFlags := 26, nameIndex := 827, descriptorIndex := 98, attributes := #[] }, { accessFlags := 26, nameIndex := 1342, descriptorIndex := 27, attributes := #[] }, { accessFlags := 26, nameIndex := 1068, descriptorIndex := 1069, attributes := #[] }, { accessFlags := 4120, nameIndex := 313, descriptorIndex := 314, attributes := #[] }])
  fields := #[{ name := "L", type := .double, accessFlags := 26, slot := 0, constantValue := 0 }, { name := "P_F", type := .int, accessFlags := 26, slot := 1, constantValue := 0 }, { name := "Q_MIN_F", type := .int, accessFlags := 26, slot := 2, constantValue := 0 }, { name := "Q_MAX_F", type := .int, accessFlags := 26, slot := 3, constantValue := 0 }, { name := "P_D", type := .int, accessFlags := 26, slot := 4, constantValue := 0 }, { name := "Q_MIN_D", type := .int, accessFlags := 26, slot := 5, constantValue := 0 }, { name := "Q_MAX_D", type := .int, accessFlags := 26, slot := 6, constantValue := 0 }, { name := "intVal", type := (.object "java/math/BigInteger"), accessFlags := 18, slot := 0, constantValue := 0 }, { name := "scale", type := .int, accessFlags := 18, slot := 1, constantValue := 0 }, { name := "precision", type := .int, accessFlags := 130, slot := 2, constantValue := 0 }, { name := "stringCache", type := (.object "java/lang/String"), accessFlags := 130, slot := 3, constantValue := 0 }, { name := "INFLATED", type := .long, accessFlags := 24, slot := 7, constantValue := 0 }, { name := "INFLATED_BIGINT", type := (.object "java/math/BigInteger"), accessFlags := 26, slot := 8, constantValue := 0 }, { name := "intCompact", type := .long, accessFlags := 146, slot := 4, constantValue := 0 }, { name := "MAX_COMPACT_DIGITS", type := .int, accessFlags := 26, slot := 9, constantValue := 0 }, { name := "serialVersionUID", type := .long, accessFlags := 26, slot := 10, constantValue := 0 }, { name := "ZERO_THROUGH_TEN", type := (.array (.object "java/math/BigDecimal")), accessFlags := 26, slot := 11, constantValue := 0 }, { name := "ZERO_SCALED_BY", type := (.array (.object "java/math/BigDecimal")), accessFlags := 26, slot := 12, constantValue := 0 }, { name := "HALF_LONG_MAX_VALUE", type := .long, accessFlags := 26, slot := 13, constantValue := 0 }, { name := "HALF_LONG_MIN_VALUE", type := .long, accessFlags := 26, slot := 14, constantValue := 0 }, { name := "ZERO", type := (.object "java/math/BigDecimal"), accessFlags := 25, slot := 15, constantValue := 0 }, { name := "ONE", type := (.object "java/math/BigDecimal"), accessFlags := 25, slot := 16, constantValue := 0 }, { name := "TWO", type := (.object "java/math/BigDecimal"), accessFlags := 25, slot := 17, constantValue := 0 }, { name := "TEN", type := (.object "java/math/BigDecimal"), accessFlags := 25, slot := 18, constantValue := 0 }, { name := "ONE_TENTH", type := (.object "java/math/BigDecimal"), accessFlags := 26, slot := 19, constantValue := 0 }, { name := "ONE_HALF", type := (.object "java/math/BigDecimal"), accessFlags := 26, slot := 20, constantValue := 0 }, { name := "ROUND_UP", type := .int, accessFlags := 25, slot := 21, constantValue := 0 }, { name := "ROUND_DOWN", type := .int, accessFlags := 25, slot := 22, constantValue := 0 }, { name := "ROUND_CEILING", type := .int, accessFlags := 25, slot := 23, constantValue := 0 }, { name := "ROUND_FLOOR", type := .int, accessFlags := 25, slot := 24, constantValue := 0 }, { name := "ROUND_HALF_UP", type := .int, accessFlags := 25, slot := 25, constantValue := 0 }, { name := "ROUND_HALF_DOWN", type := .int, accessFlags := 25, slot := 26, constantValue := 0 }, { name := "ROUND_HALF_EVEN", type := .int, accessFlags := 25, slot := 27, constantValue := 0 }, { name := "ROUND_UNNECESSARY", type := .int, accessFlags := 25, slot := 28, constantValue := 0 }, { name := "DOUBLE_10_POW", type := (.array .double), accessFlags := 26, slot := 29, constantValue := 0 }, { name := "FLOAT_10_POW", type := (.array .float), accessFlags := 26, slot := 30, constantValue := 0 }, { name := "LONG_TEN_POWERS_TABLE", type := (.array .long), accessFlags := 26, slot := 31, constantValue := 0 }, { name := "BIG_TEN_POWERS_TABLE", type := (.array (.object "java/math/BigInteger")), accessFlags := 74, slot := 32, constantValue := 0 }, { name := "BIG_TEN_POWERS_TABLE_INITLEN", type := .int, accessFlags := 26, slot := 33, constantValue := 0 }, { name := "BIG_TEN_POWERS_TABLE_MAX", type := .int, accessFlags := 26, slot := 34, constantValue := 0 }, { name := "THRESHOLDS_TABLE", type := (.array .long), accessFlags := 26, slot := 35, constantValue := 0 }, { name := "DIV_NUM_BASE", type := .long, accessFlags := 26, slot := 36, constantValue := 0 }, { name := "LONGLONG_TEN_POWERS_TABLE", type := (.array (.array .long)), accessFlags := 26, slot := 37, constantValue := 0 }, { name := "$assertionsDisabled", type := .boolean, accessFlags := 4120, slot := 38, constantValue := 0 }]
  methods := #[k9m0, k9m1, k9m2, k9m3, k9m4, k9m5, k9m6, k9m7, k9m8, k9m9, k9m10, k9m11, k9m12, k9m13, k9m14, k9m15, k9m16, k9m17, k9m18, k9m19, k9m20, k9m21, k9m22, k9m23]
  instanceTypes := #[(.object "java/math/BigInteger"), .int, .int, (.object "java/lang/String"), .long]
  staticTypes := #[.double, .int, .int, .int, .int, .int, .int, .long, (.object "java/math/BigInteger"), .int, .long, (.array (.object "java/math/BigDecimal")), (.array (.object "java/math/BigDecimal")), .long, .long, (.object "java/math/BigDecimal"), (.object "java/math/BigDecimal"), (.object "java/math/BigDecimal"), (.object "java/math/BigDecimal"), (.object "java/math/BigDecimal"), (.object "java/math/BigDecimal"), .int, .int, .int, .int, .int, .int, .int, .int, (.array .double), (.array .float), (.array .long), (.array (.object "java/math/BigInteger")), .int, .int, (.array .long), .long, (.array (.array .long)), .boolean]
  resolved := Array.replicate 1637 none
  statics := some 1 }

def pool10 : Array CpInfo := pool [(1, .methodref 2 3), (0, .class_ 4), (0, .nameAndType 5 6), (0, u "java/lang/Object"), (0, u "<init>"), (0, u "()V"), (0, .fieldref 8 9), (0, .class_ 10), (0, .nameAndType 11 12), (0, u "com/example/tipple/tipple/Arithmetic"), (0, u "places"), (0, u "Ljava/lang/Integer;"), (0, .methodref 14 15), (0, .class_ 16), (0, .nameAndType 17 18), (0, u "java/math/BigDecimal"), (0, u "add"), (0, u "(Ljava/math/BigDecimal;)Ljava/math/BigDecimal;"), (0, .methodref 8 20), (0, .nameAndType 21 18), (0, u "carried"), (0, .class_ 23), (0, u "com/example/tipple/tipple/Arithmetic$RunningSum"), (9, .methodref 34 35), (0, .class_ 36), (0, .nameAndType 37 38), (0, u "java/lang/Integer"), (0, u "intValue"), (0, u "()I"), (10, .methodref 14 50), (0, .nameAndType 51 38), (0, u "scale"), (0, .methodref 53 54), (0, .class_ 55), (0, .nameAndType 56 57), (0, u "com/example/tipple/tipple/Decimals"), (0, u "round"), (0, u "(Ljava/math/BigDecimal;I)Ljava/math/BigDecimal;"), (0, .methodref 14 59), (0, .nameAndType 60 61), (0, u "compareTo"), (0, u "(Ljava/math/BigDecimal;)I"), (0, u "QUOTIENT_PLACES"), (0, u "I"), (2, u "(Ljava/lang/Integer;)V"), (2, u "sum"), (0, u "(Ljava/math/BigDecimal;Ljava/math/BigDecimal;)Ljava/math/BigDecimal;")] 11

def k10c0 : Code := { maxStack := 2, maxLocals := 2, code := prog_7_method_1_code, exceptionTable := #[], attributes := #[] }
def k10m0 : Method := { name := "<init>", desc := "(Ljava/lang/Integer;)V", sig := { parameters := [(.object "java/lang/Integer")], returnType := none }, accessFlags := 0, code := some k10c0 }
def k10c1 : Code := { maxStack := 3, maxLocals := 3, code := prog_7_method_2_code, exceptionTable := #[], attributes := #[] }
def k10m1 : Method := { name := "sum", desc := "(Ljava/math/BigDecimal;Ljava/math/BigDecimal;)Ljava/math/BigDecimal;", sig := { parameters := [(.object "java/math/BigDecimal"), (.object "java/math/BigDecimal")], returnType := some (.object "java/math/BigDecimal") }, accessFlags := 0, code := some k10c1 }
def k10c2 : Code := { maxStack := 2, maxLocals := 4, code := prog_7_method_7_code, exceptionTable := #[], attributes := #[] }
def k10m2 : Method := { name := "carried", desc := "(Ljava/math/BigDecimal;)Ljava/math/BigDecimal;", sig := { parameters := [(.object "java/math/BigDecimal")], returnType := some (.object "java/math/BigDecimal") }, accessFlags := 0, code := some k10c2 }
/-- com/example/tipple/tipple/Arithmetic -/
def k10 : Class := { plain "com/example/tipple/tipple/Arithmetic" (some 0) with
  accessFlags := 48
  interfaces := #[]
  cf := some (fileOf pool10 8 #[.nestMembers #[22]] #[{ accessFlags := 0, nameIndex := 5, descriptorIndex := 66, attributes := #[] }, { accessFlags := 0, nameIndex := 69, descriptorIndex := 70, attributes := #[] }, { accessFlags := 0, nameIndex := 21, descriptorIndex := 18, attributes := #[] }] 48 2 #[] #[{ accessFlags := 24, nameIndex := 62, descriptorIndex := 63, attributes := #[] }, { accessFlags := 18, nameIndex := 11, descriptorIndex := 12, attributes := #[] }])
  fields := #[{ name := "QUOTIENT_PLACES", type := .int, accessFlags := 24, slot := 0, constantValue := 0 }, { name := "places", type := (.object "java/lang/Integer"), accessFlags := 18, slot := 0, constantValue := 0 }]
  methods := #[k10m0, k10m1, k10m2]
  instanceTypes := #[(.object "java/lang/Integer")]
  staticTypes := #[.int]
  resolved := Array.replicate 82 none
  statics := none }

def pool11 : Array CpInfo := pool [(1, .fieldref 2 3), (0, .class_ 4), (0, .nameAndType 5 6), (0, u "com/example/tipple/tipple/Arithmetic$RunningSum"), (0, u "this$0"), (0, u "Lcom/example/tipple/tipple/Arithmetic;"), (0, .methodref 8 9), (0, .class_ 10), (0, .nameAndType 11 12), (0, u "java/lang/Object"), (0, u "<init>"), (0, u "()V"), (0, .fieldref 2 14), (0, .nameAndType 15 16), (0, u "value"), (0, u "Ljava/math/BigDecimal;"), (0, .methodref 18 19), (0, .class_ 20), (0, .nameAndType 21 22), (0, u "com/example/tipple/tipple/Arithmetic"), (0, u "sum"), (0, u "(Ljava/math/BigDecimal;Ljava/math/BigDecimal;)Ljava/math/BigDecimal;"), (0, .fieldref 24 25), (0, .class_ 26), (0, .nameAndType 27 16), (0, u "java/math/BigDecimal"), (0, u "ZERO"), (0, u "(Lcom/example/tipple/tipple/Arithmetic;)V"), (3, u "add"), (0, u "(Ljava/math/BigDecimal;)V"), (1, u "()Ljava/math/BigDecimal;")] 5

def k11c0 : Code := { maxStack := 2, maxLocals := 2, code := prog_8_method_1_code, exceptionTable := #[], attributes := #[] }
def k11m0 : Method := { name := "<init>", desc := "(Lcom/example/tipple/tipple/Arithmetic;)V", sig := { parameters := [(.object "com/example/tipple/tipple/Arithmetic")], returnType := none }, accessFlags := 0, code := some k11c0 }
def k11c1 : Code := { maxStack := 4, maxLocals := 2, code := prog_8_method_2_code, exceptionTable := #[], attributes := #[] }
def k11m1 : Method := { name := "add", desc := "(Ljava/math/BigDecimal;)V", sig := { parameters := [(.object "java/math/BigDecimal")], returnType := none }, accessFlags := 0, code := some k11c1 }
def k11c2 : Code := { maxStack := 1, maxLocals := 1, code := prog_8_method_3_code, exceptionTable := #[], attributes := #[] }
def k11m2 : Method := { name := "value", desc := "()Ljava/math/BigDecimal;", sig := { parameters := [], returnType := some (.object "java/math/BigDecimal") }, accessFlags := 0, code := some k11c2 }
/-- com/example/tipple/tipple/Arithmetic$RunningSum -/
def k11 : Class := { plain "com/example/tipple/tipple/Arithmetic$RunningSum" (some 0) with
  accessFlags := 48
  interfaces := #[]
  cf := some (fileOf pool11 2 #[.nestHost 18] #[{ accessFlags := 0, nameIndex := 11, descriptorIndex := 28, attributes := #[] }, { accessFlags := 0, nameIndex := 32, descriptorIndex := 33, attributes := #[] }, { accessFlags := 0, nameIndex := 15, descriptorIndex := 35, attributes := #[] }] 48 8 #[] #[{ accessFlags := 2, nameIndex := 15, descriptorIndex := 16, attributes := #[] }, { accessFlags := 4112, nameIndex := 5, descriptorIndex := 6, attributes := #[] }])
  fields := #[{ name := "value", type := (.object "java/math/BigDecimal"), accessFlags := 2, slot := 0, constantValue := 0 }, { name := "this$0", type := (.object "com/example/tipple/tipple/Arithmetic"), accessFlags := 4112, slot := 1, constantValue := 0 }]
  methods := #[k11m0, k11m1, k11m2]
  instanceTypes := #[(.object "java/math/BigDecimal"), (.object "com/example/tipple/tipple/Arithmetic")]
  staticTypes := #[]
  resolved := Array.replicate 41 none
  statics := none }

def pool12 : Array CpInfo := pool [(2, .class_ 4), (1, u "java/lang/Object"), (0, u "<init>"), (0, u "()V"), (35, .class_ 44), (1, u "java/util/Objects"), (0, u "requireNonNull"), (0, u "(Ljava/lang/Object;)Ljava/lang/Object;")] 137

def k12m0 : Method := { name := "<init>", desc := "()V", sig := { parameters := [], returnType := none }, accessFlags := 2, code := none }
def k12c1 : Code := { maxStack := 2, maxLocals := 1, code := jdk_31_method_10_code, exceptionTable := #[], attributes := #[] }
def k12m1 : Method := { name := "requireNonNull", desc := "(Ljava/lang/Object;)Ljava/lang/Object;", sig := { parameters := [(.object "java/lang/Object")], returnType := some (.object "java/lang/Object") }, accessFlags := 9, code := some k12c1 }
/-- java/util/Objects -/
def k12 : Class := { plain "java/util/Objects" (some 0) with
  accessFlags := 49
  interfaces := #[]
  cf := some (fileOf pool12 42 #[] #[{ accessFlags := 2, nameIndex := 5, descriptorIndex := 6, attributes := #[] }, { accessFlags := 9, nameIndex := 45, descriptorIndex := 46, attributes := #[] }] 49 2 #[] #[])
  fields := #[]
  methods := #[k12m0, k12m1]
  instanceTypes := #[]
  staticTypes := #[]
  resolved := Array.replicate 184 none
  statics := none }

def pool13 : Array CpInfo := pool [(1, .class_ 2), (0, u "java/lang/Math"), (1, .class_ 6), (1, u "java/lang/Object"), (0, u "<init>"), (0, u "()V"), (89, .class_ 100), (1, u "java/lang/Math$RandomNumberGeneratorHolder"), (23, u "abs"), (0, u "(J)J"), (46, u "negativeZeroFloatBits"), (0, u "J"), (2, u "negativeZeroDoubleBits"), (21, u "max"), (46, u "$assertionsDisabled"), (0, u "Z"), (88, u "(II)I"), (2, u "twoToTheDoubleScaleDown"), (0, u "D"), (4, u "twoToTheDoubleScaleUp"), (9, u "E"), (3, u "PI"), (2, u "TAU"), (2, u "DEGREES_TO_RADIANS"), (0, u "RADIANS_TO_DEGREES")] 94

def k13m0 : Method := { name := "<init>", desc := "()V", sig := { parameters := [], returnType := none }, accessFlags := 2, code := none }
def k13c1 : Code := { maxStack := 4, maxLocals := 2, code := jdk_29_method_61_code, exceptionTable := #[], attributes := #[] }
def k13m1 : Method := { name := "abs", desc := "(J)J", sig := { parameters := [.long], returnType := some .long }, accessFlags := 9, code := some k13c1 }
def k13c2 : Code := { maxStack := 2, maxLocals := 2, code := jdk_29_method_65_code, exceptionTable := #[], attributes := #[] }
def k13m2 : Method := { name := "max", desc := "(II)I", sig := { parameters := [.int, .int], returnType := some .int }, accessFlags := 9, code := some k13c2 }
/-- java/lang/Math -/
def k13 : Class := { plain "java/lang/Math" (some 0) with
  accessFlags := 49
  interfaces := #[]
  cf := some (fileOf pool13 1 #[.nestMembers #[98]] #[{ accessFlags := 2, nameIndex := 7, descriptorIndex := 8, attributes := #[] }, { accessFlags := 9, nameIndex := 124, descriptorIndex := 125, attributes := #[] }, { accessFlags := 9, nameIndex := 198, descriptorIndex := 335, attributes := #[] }] 49 4 #[] #[{ accessFlags := 25, nameIndex := 354, descriptorIndex := 339, attributes := #[] }, { accessFlags := 25, nameIndex := 358, descriptorIndex := 339, attributes := #[] }, { accessFlags := 25, nameIndex := 361, descriptorIndex := 339, attributes := #[] }, { accessFlags := 26, nameIndex := 364, descriptorIndex := 339, attributes := #[] }, { accessFlags := 26, nameIndex := 365, descriptorIndex := 339, attributes := #[] }, { accessFlags := 26, nameIndex := 172, descriptorIndex := 173, attributes := #[] }, { accessFlags := 26, nameIndex := 176, descriptorIndex := 173, attributes := #[] }, { accessFlags := 8, nameIndex := 344, descriptorIndex := 339, attributes := #[] }, { accessFlags := 8, nameIndex := 338, descriptorIndex := 339, attributes := #[] }, { accessFlags := 4120, nameIndex := 245, descriptorIndex := 246, attributes := #[] }])
  fields := #[{ name := "E", type := .double, accessFlags := 25, slot := 0, constantValue := 0 }, { name := "PI", type := .double, accessFlags := 25, slot := 1, constantValue := 0 }, { name := "TAU", type := .double, accessFlags := 25, slot := 2, constantValue := 0 }, { name := "DEGREES_TO_RADIANS", type := .double, accessFlags := 26, slot := 3, constantValue := 0 }, { name := "RADIANS_TO_DEGREES", type := .double, accessFlags := 26, slot := 4, constantValue := 0 }, { name := "negativeZeroFloatBits", type := .long, accessFlags := 26, slot := 5, constantValue := 0 }, { name := "negativeZeroDoubleBits", type := .long, accessFlags := 26, slot := 6, constantValue := 0 }, { name := "twoToTheDoubleScaleUp", type := .double, accessFlags := 8, slot := 7, constantValue := 0 }, { name := "twoToTheDoubleScaleDown", type := .double, accessFlags := 8, slot := 8, constantValue := 0 }, { name := "$assertionsDisabled", type := .boolean, accessFlags := 4120, slot := 9, constantValue := 0 }]
  methods := #[k13m0, k13m1, k13m2]
  instanceTypes := #[]
  staticTypes := #[.double, .double, .double, .double, .double, .long, .long, .double, .double, .boolean]
  resolved := Array.replicate 460 none
  statics := none }

def pool14 : Array CpInfo := pool [(2, .class_ 4), (1, u "java/lang/Object"), (0, u "<init>"), (0, u "()V"), (1, .class_ 10), (1, u "com/example/tipple/tipple/Decimals"), (0, u "POWERS_OF_TEN"), (0, u "[J"), (0, .fieldref 14 15), (0, .class_ 16), (0, .nameAndType 17 18), (0, u "java/math/RoundingMode"), (0, u "HALF_UP"), (0, u "Ljava/math/RoundingMode;"), (0, .methodref 20 21), (0, .class_ 22), (0, .nameAndType 23 24), (0, u "java/math/BigDecimal"), (0, u "setScale"), (0, u "(ILjava/math/RoundingMode;)Ljava/math/BigDecimal;"), (57, u "LONG_DIGITS"), (0, u "I"), (6, u "round"), (0, u "(Ljava/math/BigDecimal;I)Ljava/math/BigDecimal;")] 7

def k14m0 : Method := { name := "<init>", desc := "()V", sig := { parameters := [], returnType := none }, accessFlags := 2, code := none }
def k14c1 : Code := { maxStack := 3, maxLocals := 2, code := prog_24_method_3_code, exceptionTable := #[], attributes := #[] }
def k14m1 : Method := { name := "round", desc := "(Ljava/math/BigDecimal;I)Ljava/math/BigDecimal;", sig := { parameters := [(.object "java/math/BigDecimal"), .int], returnType := some (.object "java/math/BigDecimal") }, accessFlags := 8, code := some k14c1 }
/-- com/example/tipple/tipple/Decimals -/
def k14 : Class := { plain "com/example/tipple/tipple/Decimals" (some 0) with
  accessFlags := 48
  interfaces := #[]
  cf := some (fileOf pool14 8 #[] #[{ accessFlags := 2, nameIndex := 5, descriptorIndex := 6, attributes := #[] }, { accessFlags := 8, nameIndex := 90, descriptorIndex := 91, attributes := #[] }] 48 2 #[] #[{ accessFlags := 24, nameIndex := 82, descriptorIndex := 83, attributes := #[] }, { accessFlags := 26, nameIndex := 11, descriptorIndex := 12, attributes := #[] }])
  fields := #[{ name := "LONG_DIGITS", type := .int, accessFlags := 24, slot := 0, constantValue := 0 }, { name := "POWERS_OF_TEN", type := (.array .long), accessFlags := 26, slot := 1, constantValue := 0 }]
  methods := #[k14m0, k14m1]
  instanceTypes := #[]
  staticTypes := #[.int, (.array .long)]
  resolved := Array.replicate 99 none
  statics := none }

def pool15 : Array CpInfo := pool [(2, .class_ 4), (1, u "java/lang/Enum"), (0, u "name"), (0, u "Ljava/lang/String;"), (2, u "ordinal"), (0, u "I"), (1, .class_ 14), (1, u "java/lang/Object"), (4, u "hash"), (86, .class_ 108), (1, u "java/lang/Enum$EnumDesc"), (2, .class_ 112), (0, u "java/lang/constant/Constable"), (0, .class_ 114), (0, u "java/lang/Comparable"), (0, .class_ 116), (0, u "java/io/Serializable")] 87

/-- java/lang/Enum -/
def k15 : Class := { plain "java/lang/Enum" (some 0) with
  accessFlags := 1057
  interfaces := #[5, 4, 2]
  cf := some (fileOf pool15 2 #[.nestMembers #[106]] #[] 1057 12 #[111, 113, 115] #[{ accessFlags := 18, nameIndex := 5, descriptorIndex := 6, attributes := #[] }, { accessFlags := 18, nameIndex := 9, descriptorIndex := 10, attributes := #[] }, { accessFlags := 2, nameIndex := 19, descriptorIndex := 10, attributes := #[] }])
  fields := #[{ name := "name", type := (.object "java/lang/String"), accessFlags := 18, slot := 0, constantValue := 0 }, { name := "ordinal", type := .int, accessFlags := 18, slot := 1, constantValue := 0 }, { name := "hash", type := .int, accessFlags := 2, slot := 2, constantValue := 0 }]
  methods := #[]
  instanceTypes := #[(.object "java/lang/String"), .int, .int]
  staticTypes := #[]
  resolved := Array.replicate 204 none
  statics := none }

def pool16 : Array CpInfo := pool [(1, .class_ 2), (0, u "java/math/RoundingMode"), (2, u "UP"), (0, u "Ljava/math/RoundingMode;"), (2, u "DOWN"), (2, u "CEILING"), (2, u "FLOOR"), (2, u "HALF_UP"), (2, u "HALF_DOWN"), (2, u "HALF_EVEN"), (2, u "UNNECESSARY"), (2, u "$VALUES"), (0, u "[Ljava/math/RoundingMode;"), (6, .class_ 40), (1, u "java/lang/Enum"), (8, u "oldMode"), (0, u "I")] 43

/-- java/math/RoundingMode -/
def k16 : Class := { plain "java/math/RoundingMode" (some 15) with
  accessFlags := 16433
  interfaces := #[]
  cf := some (fileOf pool16 1 #[] #[] 16433 38 #[] #[{ accessFlags := 16409, nameIndex := 5, descriptorIndex := 6, attributes := #[] }, { accessFlags := 16409, nameIndex := 9, descriptorIndex := 6, attributes := #[] }, { accessFlags := 16409, nameIndex := 12, descriptorIndex := 6, attributes := #[] }, { accessFlags := 16409, nameIndex := 15, descriptorIndex := 6, attributes := #[] }, { accessFlags := 16409, nameIndex := 18, descriptorIndex := 6, attributes := #[] }, { accessFlags := 16409, nameIndex := 21, descriptorIndex := 6, attributes := #[] }, { accessFlags := 16409, nameIndex := 24, descriptorIndex := 6, attributes := #[] }, { accessFlags := 16409, nameIndex := 27, descriptorIndex := 6, attributes := #[] }, { accessFlags := 16, nameIndex := 49, descriptorIndex := 50, attributes := #[] }, { accessFlags := 4122, nameIndex := 30, descriptorIndex := 31, attributes := #[] }])
  fields := #[{ name := "UP", type := (.object "java/math/RoundingMode"), accessFlags := 16409, slot := 0, constantValue := 0 }, { name := "DOWN", type := (.object "java/math/RoundingMode"), accessFlags := 16409, slot := 1, constantValue := 0 }, { name := "CEILING", type := (.object "java/math/RoundingMode"), accessFlags := 16409, slot := 2, constantValue := 0 }, { name := "FLOOR", type := (.object "java/math/RoundingMode"), accessFlags := 16409, slot := 3, constantValue := 0 }, { name := "HALF_UP", type := (.object "java/math/RoundingMode"), accessFlags := 16409, slot := 4, constantValue := 0 }, { name := "HALF_DOWN", type := (.object "java/math/RoundingMode"), accessFlags := 16409, slot := 5, constantValue := 0 }, { name := "HALF_EVEN", type := (.object "java/math/RoundingMode"), accessFlags := 16409, slot := 6, constantValue := 0 }, { name := "UNNECESSARY", type := (.object "java/math/RoundingMode"), accessFlags := 16409, slot := 7, constantValue := 0 }, { name := "oldMode", type := .int, accessFlags := 16, slot := 3, constantValue := 0 }, { name := "$VALUES", type := (.array (.object "java/math/RoundingMode")), accessFlags := 4122, slot := 8, constantValue := 0 }]
  methods := #[]
  instanceTypes := #[(.object "java/lang/String"), .int, .int, .int]
  staticTypes := #[(.object "java/math/RoundingMode"), (.object "java/math/RoundingMode"), (.object "java/math/RoundingMode"), (.object "java/math/RoundingMode"), (.object "java/math/RoundingMode"), (.object "java/math/RoundingMode"), (.object "java/math/RoundingMode"), (.object "java/math/RoundingMode"), (.array (.object "java/math/RoundingMode"))]
  resolved := Array.replicate 94 none
  statics := some 2 }

def pool17 : Array CpInfo := pool [(1, .class_ 2), (0, u "java/lang/Long"), (15, .class_ 20), (1, u "java/lang/Integer"), (79, u "numberOfLeadingZeros"), (0, u "(J)I"), (133, .class_ 237), (1, u "java/lang/Long$LongCache"), (33, .class_ 272), (0, u "java/lang/Number"), (2, u "value"), (0, u "J"), (27, u "compare"), (0, u "(JJ)I"), (2, .methodref 18 309), (0, .nameAndType 100 310), (0, u "(I)I"), (50, u "TYPE"), (0, u "Ljava/lang/Class;"), (0, .class_ 364), (0, u "java/lang/Comparable"), (0, .class_ 366), (0, u "java/lang/constant/Constable"), (0, .class_ 368), (0, u "java/lang/constant/ConstantDesc"), (0, u "MIN_VALUE"), (1, u "MAX_VALUE"), (4, u "SIZE"), (0, u "I"), (1, u "BYTES"), (1, u "serialVersionUID"), (115, u "signum")] 26

def k17c0 : Code := { maxStack := 4, maxLocals := 4, code := jdk_35_method_42_code, exceptionTable := #[], attributes := #[] }
def k17m0 : Method := { name := "compare", desc := "(JJ)I", sig := { parameters := [.long, .long], returnType := some .int }, accessFlags := 9, code := some k17c0 }
def k17c1 : Code := { maxStack := 3, maxLocals := 3, code := jdk_35_method_48_code, exceptionTable := #[], attributes := #[] }
def k17m1 : Method := { name := "numberOfLeadingZeros", desc := "(J)I", sig := { parameters := [.long], returnType := some .int }, accessFlags := 9, code := some k17c1 }
def k17c2 : Code := { maxStack := 5, maxLocals := 2, code := jdk_35_method_57_code, exceptionTable := #[], attributes := #[] }
def k17m2 : Method := { name := "signum", desc := "(J)I", sig := { parameters := [.long], returnType := some .int }, accessFlags := 9, code := some k17c2 }
/-- java/lang/Long -/
def k17 : Class := { plain "java/lang/Long" (some 3) with
  accessFlags := 49
  interfaces := #[4, 5, 6]
  cf := some (fileOf pool17 1 #[.nestMembers #[235]] #[{ accessFlags := 9, nameIndex := 304, descriptorIndex := 305, attributes := #[] }, { accessFlags := 9, nameIndex := 100, descriptorIndex := 101, attributes := #[] }, { accessFlags := 9, nameIndex := 497, descriptorIndex := 101, attributes := #[] }] 49 271 #[363, 365, 367] #[{ accessFlags := 25, nameIndex := 369, descriptorIndex := 276, attributes := #[] }, { accessFlags := 25, nameIndex := 371, descriptorIndex := 276, attributes := #[] }, { accessFlags := 25, nameIndex := 361, descriptorIndex := 362, attributes := #[] }, { accessFlags := 18, nameIndex := 275, descriptorIndex := 276, attributes := #[] }, { accessFlags := 25, nameIndex := 376, descriptorIndex := 377, attributes := #[] }, { accessFlags := 25, nameIndex := 379, descriptorIndex := 377, attributes := #[] }, { accessFlags := 26, nameIndex := 381, descriptorIndex := 276, attributes := #[] }])
  fields := #[{ name := "MIN_VALUE", type := .long, accessFlags := 25, slot := 0, constantValue := 0 }, { name := "MAX_VALUE", type := .long, accessFlags := 25, slot := 1, constantValue := 0 }, { name := "TYPE", type := (.object "java/lang/Class"), accessFlags := 25, slot := 2, constantValue := 0 }, { name := "value", type := .long, accessFlags := 18, slot := 0, constantValue := 0 }, { name := "SIZE", type := .int, accessFlags := 25, slot := 3, constantValue := 0 }, { name := "BYTES", type := .int, accessFlags := 25, slot := 4, constantValue := 0 }, { name := "serialVersionUID", type := .long, accessFlags := 26, slot := 5, constantValue := 0 }]
  methods := #[k17m0, k17m1, k17m2]
  instanceTypes := #[.long]
  staticTypes := #[.long, .long, (.object "java/lang/Class"), .int, .int, .long]
  resolved := Array.replicate 524 none
  statics := none }

def pool18 : Array CpInfo := pool [(4, .class_ 6), (1, u "java/lang/Number"), (16, .class_ 25), (1, u "java/math/BigInteger"), (0, u "ZERO"), (0, u "Ljava/math/BigInteger;"), (2, u "mag"), (0, u "[I"), (2, u "signum"), (0, u "I"), (59, u "bitsPerDigit"), (0, u "[J"), (9, u "digitsPerInt"), (12, u "intRadix"), (60, u "SMALL_PRIME_PRODUCT"), (79, u "ONE"), (6, u "TWO"), (43, u "$assertionsDisabled"), (0, u "Z"), (36, u "posConst"), (0, u "[Ljava/math/BigInteger;"), (4, u "negConst"), (116, .class_ 474), (1, u "java/math/BigInteger$RecursiveOp"), (106, u "NEGATIVE_ONE"), (91, u "bnExpModThreshTable"), (72, u "lowestSetBitPlusTwo"), (2, u "bitLengthPlusOne"), (2, u "bitCountPlusOne"), (6, u "LOG_TWO"), (0, u "D"), (2, u "logCache"), (0, u "[D"), (13, u "NUM_ZEROS"), (2, u "ZEROS"), (0, u "Ljava/lang/String;"), (9, u "longRadix"), (5, u "digitsPerLong"), (22, u "powerCache"), (0, u "[[Ljava/math/BigInteger;"), (45, u "firstNonzeroIntNumPlusTwo"), (38, .class_ 909), (1, u "java/math/BigInteger$UnsafeHolder"), (141, u "TEN"), (106, u "serialPersistentFields"), (0, u "[Ljava/io/ObjectStreamField;"), (0, .class_ 1161), (0, u "java/lang/Comparable"), (0, u "LONG_MASK"), (0, u "J"), (1, u "MAX_MAG_LENGTH"), (0, u "PRIME_SEARCH_BIT_LENGTH_LIMIT"), (1, u "KARATSUBA_THRESHOLD"), (1, u "TOOM_COOK_THRESHOLD"), (1, u "KARATSUBA_SQUARE_THRESHOLD"), (1, u "TOOM_COOK_SQUARE_THRESHOLD"), (1, u "BURNIKEL_ZIEGLER_THRESHOLD"), (0, u "BURNIKEL_ZIEGLER_OFFSET"), (1, u "SCHOENHAGE_BASE_CONVERSION_THRESHOLD"), (1, u "MULTIPLY_SQUARE_THRESHOLD"), (0, u "MONTGOMERY_INTRINSIC_THRESHOLD"), (1, u "SMALL_PRIME_THRESHOLD"), (1, u "DEFAULT_PRIME_CERTAINTY"), (1, u "MAX_CONSTANT"), (3, u "serialVersionUID"), (338, .class_ 1532), (0, u "java/math/BigInteger$RecursiveOp$RecursiveSquare"), (0, .class_ 1534), (0, u "java/math/BigInteger$RecursiveOp$RecursiveMultiply")] 7

/-- java/math/BigInteger -/
def k18 : Class := { plain "java/math/BigInteger" (some 3) with
  accessFlags := 33
  interfaces := #[4]
  cf := some (fileOf pool18 23 #[.nestMembers #[907, 472, 1531, 1533]] #[] 33 4 #[1160] #[{ accessFlags := 16, nameIndex := 34, descriptorIndex := 35, attributes := #[] }, { accessFlags := 16, nameIndex := 30, descriptorIndex := 31, attributes := #[] }, { accessFlags := 2, nameIndex := 752, descriptorIndex := 35, attributes := #[] }, { accessFlags := 2, nameIndex := 749, descriptorIndex := 35, attributes := #[] }, { accessFlags := 2, nameIndex := 746, descriptorIndex := 35, attributes := #[] }, { accessFlags := 2, nameIndex := 868, descriptorIndex := 35, attributes := #[] }, { accessFlags := 24, nameIndex := 1162, descriptorIndex := 1163, attributes := #[] }, { accessFlags := 26, nameIndex := 1165, descriptorIndex := 35, attributes := #[] }, { accessFlags := 26, nameIndex := 1166, descriptorIndex := 35, attributes := #[] }, { accessFlags := 26, nameIndex := 1168, descriptorIndex := 35, attributes := #[] }, { accessFlags := 26, nameIndex := 1170, descriptorIndex := 35, attributes := #[] }, { accessFlags := 26, nameIndex := 1172, descriptorIndex := 35, attributes := #[] }, { accessFlags := 26, nameIndex := 1174, descriptorIndex := 35, attributes := #[] }, { accessFlags := 24, nameIndex := 1176, descriptorIndex := 35, attributes := #[] }, { accessFlags := 24, nameIndex := 1177, descriptorIndex := 35, attributes := #[] }, { accessFlags := 26, nameIndex := 1179, descriptorIndex := 35, attributes := #[] }, { accessFlags := 26, nameIndex := 1181, descriptorIndex := 35, attributes := #[] }, { accessFlags := 26, nameIndex := 1182, descriptorIndex := 35, attributes := #[] }, { accessFlags := 10, nameIndex := 95, descriptorIndex := 96, attributes := #[] }, { accessFlags := 26, nameIndex := 1184, descriptorIndex := 35, attributes := #[] }, { accessFlags := 26, nameIndex := 1186, descriptorIndex := 35, attributes := #[] }, { accessFlags := 26, nameIndex := 180, descriptorIndex := 27, attributes := #[] }, { accessFlags := 26, nameIndex := 1188, descriptorIndex := 35, attributes := #[] }, { accessFlags := 26, nameIndex := 349, descriptorIndex := 350, attributes := #[] }, { accessFlags := 26, nameIndex := 355, descriptorIndex := 350, attributes := #[] }, { accessFlags := 74, nameIndex := 821, descriptorIndex := 822, attributes := #[] }, { accessFlags := 26, nameIndex := 763, descriptorIndex := 764, attributes := #[] }, { accessFlags := 26, nameIndex := 759, descriptorIndex := 760, attributes := #[] }, { accessFlags := 25, nameIndex := 26, descriptorIndex := 27, attributes := #[] }, { accessFlags := 25, nameIndex := 260, descriptorIndex := 27, attributes := #[] }, { accessFlags := 25, nameIndex := 267, descriptorIndex := 27, attributes := #[] }, { accessFlags := 26, nameIndex := 581, descriptorIndex := 27, attributes := #[] }, { accessFlags := 25, nameIndex := 1051, descriptorIndex := 27, attributes := #[] }, { accessFlags := 8, nameIndex := 673, descriptorIndex := 31, attributes := #[] }, { accessFlags := 10, nameIndex := 778, descriptorIndex := 35, attributes := #[] }, { accessFlags := 26, nameIndex := 781, descriptorIndex := 782, attributes := #[] }, { accessFlags := 10, nameIndex := 798, descriptorIndex := 31, attributes := #[] }, { accessFlags := 10, nameIndex := 792, descriptorIndex := 350, attributes := #[] }, { accessFlags := 10, nameIndex := 106, descriptorIndex := 31, attributes := #[] }, { accessFlags := 10, nameIndex := 119, descriptorIndex := 31, attributes := #[] }, { accessFlags := 26, nameIndex := 1192, descriptorIndex := 1163, attributes := #[] }, { accessFlags := 26, nameIndex := 1158, descriptorIndex := 1159, attributes := #[] }, { accessFlags := 4120, nameIndex := 311, descriptorIndex := 312, attributes := #[] }])
  fields := #[{ name := "signum", type := .int, accessFlags := 16, slot := 0, constantValue := 0 }, { name := "mag", type := (.array .int), accessFlags := 16, slot := 1, constantValue := 0 }, { name := "bitCountPlusOne", type := .int, accessFlags := 2, slot := 2, constantValue := 0 }, { name := "bitLengthPlusOne", type := .int, accessFlags := 2, slot := 3, constantValue := 0 }, { name := "lowestSetBitPlusTwo", type := .int, accessFlags := 2, slot := 4, constantValue := 0 }, { name := "firstNonzeroIntNumPlusTwo", type := .int, accessFlags := 2, slot := 5, constantValue := 0 }, { name := "LONG_MASK", type := .long, accessFlags := 24, slot := 0, constantValue := 0 }, { name := "MAX_MAG_LENGTH", type := .int, accessFlags := 26, slot := 1, constantValue := 0 }, { name := "PRIME_SEARCH_BIT_LENGTH_LIMIT", type := .int, accessFlags := 26, slot := 2, constantValue := 0 }, { name := "KARATSUBA_THRESHOLD", type := .int, accessFlags := 26, slot := 3, constantValue := 0 }, { name := "TOOM_COOK_THRESHOLD", type := .int, accessFlags := 26, slot := 4, constantValue := 0 }, { name := "KARATSUBA_SQUARE_THRESHOLD", type := .int, accessFlags := 26, slot := 5, constantValue := 0 }, { name := "TOOM_COOK_SQUARE_THRESHOLD", type := .int, accessFlags := 26, slot := 6, constantValue := 0 }, { name := "BURNIKEL_ZIEGLER_THRESHOLD", type := .int, accessFlags := 24, slot := 7, constantValue := 0 }, { name := "BURNIKEL_ZIEGLER_OFFSET", type := .int, accessFlags := 24, slot := 8, constantValue := 0 }, { name := "SCHOENHAGE_BASE_CONVERSION_THRESHOLD", type := .int, accessFlags := 26, slot := 9, constantValue := 0 }, { name := "MULTIPLY_SQUARE_THRESHOLD", type := .int, accessFlags := 26, slot := 10, constantValue := 0 }, { name := "MONTGOMERY_INTRINSIC_THRESHOLD", type := .int, accessFlags := 26, slot := 11, constantValue := 0 }, { name := "bitsPerDigit", type := (.array .long), accessFlags := 10, slot := 12, constantValue := 0 }, { name := "SMALL_PRIME_THRESHOLD", type := .int, accessFlags := 26, slot := 13, constantValue := 0 }, { name := "DEFAULT_PRIME_CERTAINTY", type := .int, accessFlags := 26, slot := 14, constantValue := 0 }, { name := "SMALL_PRIME_PRODUCT", type := (.object "java/math/BigInteger"), accessFlags := 26, slot := 15, constantValue := 0 }, { name := "MAX_CONSTANT", type := .int, accessFlags := 26, slot := 16, constantValue := 0 }, { name := "posConst", type := (.array (.object "java/math/BigInteger")), accessFlags := 26, slot := 17, constantValue := 0 }, { name := "negConst", type := (.array (.object "java/math/BigInteger")), accessFlags := 26, slot := 18, constantValue := 0 }, { name := "powerCache", type := (.array (.array (.object "java/math/BigInteger"))), accessFlags := 74, slot := 19, constantValue := 0 }, { name := "logCache", type := (.array .double), accessFlags := 26, slot := 20, constantValue := 0 }, { name := "LOG_TWO", type := .double, accessFlags := 26, slot := 21, constantValue := 0 }, { name := "ZERO", type := (.object "java/math/BigInteger"), accessFlags := 25, slot := 22, constantValue := 0 }, { name := "ONE", type := (.object "java/math/BigInteger"), accessFlags := 25, slot := 23, constantValue := 0 }, { name := "TWO", type := (.object "java/math/BigInteger"), accessFlags := 25, slot := 24, constantValue := 0 }, { name := "NEGATIVE_ONE", type := (.object "java/math/BigInteger"), accessFlags := 26, slot := 25, constantValue := 0 }, { name := "TEN", type := (.object "java/math/BigInteger"), accessFlags := 25, slot := 26, constantValue := 0 }, { name := "bnExpModThreshTable", type := (.array .int), accessFlags := 8, slot := 27, constantValue := 0 }, { name := "NUM_ZEROS", type := .int, accessFlags := 10, slot := 28, constantValue := 0 }, { name := "ZEROS", type := (.object "java/lang/String"), accessFlags := 26, slot := 29, constantValue := 0 }, { name := "digitsPerLong", type := (.array .int), accessFlags := 10, slot := 30, constantValue := 0 }, { name := "longRadix", type := (.array (.object "java/math/BigInteger")), accessFlags := 10, slot := 31, constantValue := 0 }, { name := "digitsPerInt", type := (.array .int), accessFlags := 10, slot := 32, constantValue := 0 }, { name := "intRadix", type := (.array .int), accessFlags := 10, slot := 33, constantValue := 0 }, { name := "serialVersionUID", type := .long, accessFlags := 26, slot := 34, constantValue := 0 }, { name := "serialPersistentFields", type := (.array (.object "java/io/ObjectStreamField")), accessFlags := 26, slot := 35, constantValue := 0 }, { name := "$assertionsDisabled", type := .boolean, accessFlags := 4120, slot := 36, constantValue := 0 }]
  methods := #[]
  instanceTypes := #[.int, (.array .int), .int, .int, .int, .int]
  staticTypes := #[.long, .int, .int, .int, .int, .int, .int, .int, .int, .int, .int, .int, (.array .long), .int, .int, (.object "java/math/BigInteger"), .int, (.array (.object "java/math/BigInteger")), (.array (.object "java/math/BigInteger")), (.array (.array (.object "java/math/BigInteger"))), (.array .double), .double, (.object "java/math/BigInteger"), (.object "java/math/BigInteger"), (.object "java/math/BigInteger"), (.object "java/math/BigInteger"), (.object "java/math/BigInteger"), (.array .int), .int, (.object "java/lang/String"), (.array .int), (.array (.object "java/math/BigInteger")), (.array .int), (.array .int), .long, (.array (.object "java/io/ObjectStreamField")), .boolean]
  resolved := Array.replicate 1542 none
  statics := some 3 }

def pool19 : Array CpInfo := pool [(2, .class_ 4), (1, u "java/lang/CharSequence"), (42, .class_ 48), (0, u "java/lang/CharSequence$1CodePointIterator"), (10, .class_ 60), (0, u "java/lang/CharSequence$1CharIterator"), (5, .class_ 67), (0, u "java/lang/Object")] 63

/-- java/lang/CharSequence -/
def k19 : Class := { plain "java/lang/CharSequence" (some 0) with
  accessFlags := 1537
  interfaces := #[]
  cf := some (fileOf pool19 2 #[.nestMembers #[47, 59]] #[] 1537 66 #[] #[])
  fields := #[]
  methods := #[]
  instanceTypes := #[]
  staticTypes := #[]
  resolved := Array.replicate 131 none
  statics := none }

def pool20 : Array CpInfo := pool [(2, .class_ 4), (1, u "java/lang/Object"), (0, u "<init>"), (0, u "()V"), (3, .class_ 12), (1, u "java/lang/String"), (0, u "value"), (0, u "[B"), (2, u "coder"), (0, u "B"), (2, u "hash"), (0, u "I"), (2, u "hashIsZero"), (0, u "Z"), (13, u "COMPACT_STRINGS"), (534, .class_ 576), (0, u "java/lang/CharSequence"), (22, u "CASE_INSENSITIVE_ORDER"), (0, u "Ljava/util/Comparator;"), (500, u "serialPersistentFields"), (0, u "[Ljava/io/ObjectStreamField;"), (0, .class_ 1104), (0, u "java/lang/String$CaseInsensitiveComparator"), (1, .class_ 1107), (0, u "java/io/Serializable"), (0, .class_ 1109), (0, u "java/lang/Comparable"), (0, .class_ 1111), (0, u "java/lang/constant/Constable"), (0, .class_ 1113), (0, u "java/lang/constant/ConstantDesc"), (2, u "serialVersionUID"), (0, u "J"), (3, u "REPL"), (0, u "C"), (2, u "LATIN1"), (1, u "UTF16")] 323

def k20m0 : Method := { name := "<init>", desc := "()V", sig := { parameters := [], returnType := none }, accessFlags := 1, code := none }
/-- java/lang/String -/
def k20 : Class := { plain "java/lang/String" (some 0) with
  accessFlags := 49
  interfaces := #[2, 4, 19, 5, 6]
  cf := some (fileOf pool20 10 #[.nestMembers #[1103]] #[{ accessFlags := 1, nameIndex := 5, descriptorIndex := 6, attributes := #[] }] 49 2 #[1106, 1108, 575, 1110, 1112] #[{ accessFlags := 18, nameIndex := 13, descriptorIndex := 14, attributes := #[] }, { accessFlags := 18, nameIndex := 17, descriptorIndex := 18, attributes := #[] }, { accessFlags := 2, nameIndex := 21, descriptorIndex := 22, attributes := #[] }, { accessFlags := 2, nameIndex := 25, descriptorIndex := 26, attributes := #[] }, { accessFlags := 26, nameIndex := 1116, descriptorIndex := 1117, attributes := #[] }, { accessFlags := 24, nameIndex := 40, descriptorIndex := 26, attributes := #[] }, { accessFlags := 26, nameIndex := 1101, descriptorIndex := 1102, attributes := #[] }, { accessFlags := 26, nameIndex := 1121, descriptorIndex := 1122, attributes := #[] }, { accessFlags := 25, nameIndex := 599, descriptorIndex := 600, attributes := #[] }, { accessFlags := 24, nameIndex := 1125, descriptorIndex := 18, attributes := #[] }, { accessFlags := 24, nameIndex := 1127, descriptorIndex := 18, attributes := #[] }])
  fields := #[{ name := "value", type := (.array .byte), accessFlags := 18, slot := 0, constantValue := 0 }, { name := "coder", type := .byte, accessFlags := 18, slot := 1, constantValue := 0 }, { name := "hash", type := .int, accessFlags := 2, slot := 2, constantValue := 0 }, { name := "hashIsZero", type := .boolean, accessFlags := 2, slot := 3, constantValue := 0 }, { name := "serialVersionUID", type := .long, accessFlags := 26, slot := 0, constantValue := 0 }, { name := "COMPACT_STRINGS", type := .boolean, accessFlags := 24, slot := 1, constantValue := 0 }, { name := "serialPersistentFields", type := (.array (.object "java/io/ObjectStreamField")), accessFlags := 26, slot := 2, constantValue := 0 }, { name := "REPL", type := .char, accessFlags := 26, slot := 3, constantValue := 0 }, { name := "CASE_INSENSITIVE_ORDER", type := (.object "java/util/Comparator"), accessFlags := 25, slot := 4, constantValue := 0 }, { name := "LATIN1", type := .byte, accessFlags := 24, slot := 5, constantValue := 0 }, { name := "UTF16", type := .byte, accessFlags := 24, slot := 6, constantValue := 0 }]
  methods := #[k20m0]
  instanceTypes := #[(.array .byte), .byte, .int, .boolean]
  staticTypes := #[.long, .boolean, (.array (.object "java/io/ObjectStreamField")), .char, (.object "java/util/Comparator"), .byte, .byte]
  resolved := Array.replicate 1451 none
  statics := none }

def pool21 : Array CpInfo := pool [(1, u "java/lang/Cloneable"), (0, .class_ 1), (0, u "java/lang/Object"), (0, .class_ 3)] 3

/-- java/lang/Cloneable -/
def k21 : Class := { plain "java/lang/Cloneable" (some 0) with
  accessFlags := 1537
  interfaces := #[]
  cf := some (fileOf pool21 2 #[] #[] 1537 4 #[] #[])
  fields := #[]
  methods := #[]
  instanceTypes := #[]
  staticTypes := #[]
  resolved := Array.replicate 8 none
  statics := none }

/-- the primitive byte -/
def k22 : Class := { plain "byte" none with kind := .primitive 'B', accessFlags := 0x411 }
/-- [B -/
def k23 : Class := { plain "[B" (some 0) with kind := .array 22 .byte, interfaces := #[21, 2], accessFlags := 1041 }

/-- the primitive int -/
def k24 : Class := { plain "int" none with kind := .primitive 'I', accessFlags := 0x411 }
/-- [I -/
def k25 : Class := { plain "[I" (some 0) with kind := .array 24 .int, interfaces := #[21, 2], accessFlags := 1041 }

/-- the primitive long -/
def k26 : Class := { plain "long" none with kind := .primitive 'J', accessFlags := 0x411 }
/-- [J -/
def k27 : Class := { plain "[J" (some 0) with kind := .array 26 .long, interfaces := #[21, 2], accessFlags := 1041 }

/-- [Ljava/lang/Integer; -/
def k28 : Class := { plain "[Ljava/lang/Integer;" (some 0) with kind := .array 7 (.object "java/lang/Integer"), interfaces := #[21, 2], accessFlags := 1041 }

/-- [Ljava/math/BigDecimal; -/
def k29 : Class := { plain "[Ljava/math/BigDecimal;" (some 0) with kind := .array 9 (.object "java/math/BigDecimal"), interfaces := #[21, 2], accessFlags := 1041 }

def heap : Heap := #[{ cls := 8, slots := #[.int 0, .int 127, .ref 4, .null, .int 0], vm := .statics 8 },
  { cls := 9, slots := #[.double 0, .int 0, .int 0, .int 0, .int 0, .int 0, .int 0, .long 0, .null, .int 0, .long 0, .ref 5, .ref 6, .long 0, .long 0, .ref 285, .ref 286, .ref 287, .ref 295, .null, .null, .int 0, .int 0, .int 0, .int 0, .int 0, .int 0, .int 0, .int 0, .null, .null, .ref 313, .null, .int 0, .int 0, .ref 314, .long 0, .null, .int 1], vm := .statics 9 },
  { cls := 16, slots := #[.null, .null, .null, .null, .ref 312, .null, .null, .null, .null], vm := .statics 16 },
  { cls := 18, slots := #[.long 0, .int 0, .int 0, .int 0, .int 0, .int 0, .int 0, .int 0, .int 0, .int 0, .int 0, .int 0, .null, .int 0, .int 0, .null, .int 0, .null, .null, .null, .null, .double 0, .ref 264, .ref 266, .ref 268, .null, .ref 284, .null, .int 0, .null, .null, .null, .null, .null, .long 0, .null, .int 0], vm := .statics 18 },
  { cls := 28, slots := #[.ref 7, .ref 8, .ref 9, .ref 10, .ref 11, .ref 12, .ref 13, .ref 14, .ref 15, .ref 16, .ref 17, .ref 18, .ref 19, .ref 20, .ref 21, .ref 22, .ref 23, .ref 24, .ref 25, .ref 26, .ref 27, .ref 28, .ref 29, .ref 30, .ref 31, .ref 32, .ref 33, .ref 34, .ref 35, .ref 36, .ref 37, .ref 38, .ref 39, .ref 40, .ref 41, .ref 42, .ref 43, .ref 44, .ref 45, .ref 46, .ref 47, .ref 48, .ref 49, .ref 50, .ref 51, .ref 52, .ref 53, .ref 54, .ref 55, .ref 56, .ref 57, .ref 58, .ref 59, .ref 60, .ref 61, .ref 62, .ref 63, .ref 64, .ref 65, .ref 66, .ref 67, .ref 68, .ref 69, .ref 70, .ref 71, .ref 72, .ref 73, .ref 74, .ref 75, .ref 76, .ref 77, .ref 78, .ref 79, .ref 80, .ref 81, .ref 82, .ref 83, .ref 84, .ref 85, .ref 86, .ref 87, .ref 88, .ref 89, .ref 90, .ref 91, .ref 92, .ref 93, .ref 94, .ref 95, .ref 96, .ref 97, .ref 98, .ref 99, .ref 100, .ref 101, .ref 102, .ref 103, .ref 104, .ref 105, .ref 106, .ref 107, .ref 108, .ref 109, .ref 110, .ref 111, .ref 112, .ref 113, .ref 114, .ref 115, .ref 116, .ref 117, .ref 118, .ref 119, .ref 120, .ref 121, .ref 122, .ref 123, .ref 124, .ref 125, .ref 126, .ref 127, .ref 128, .ref 129, .ref 130, .ref 131, .ref 132, .ref 133, .ref 134, .ref 135, .ref 136, .ref 137, .ref 138, .ref 139, .ref 140, .ref 141, .ref 142, .ref 143, .ref 144, .ref 145, .ref 146, .ref 147, .ref 148, .ref 149, .ref 150, .ref 151, .ref 152, .ref 153, .ref 154, .ref 155, .ref 156, .ref 157, .ref 158, .ref 159, .ref 160, .ref 161, .ref 162, .ref 163, .ref 164, .ref 165, .ref 166, .ref 167, .ref 168, .ref 169, .ref 170, .ref 171, .ref 172, .ref 173, .ref 174, .ref 175, .ref 176, .ref 177, .ref 178, .ref 179, .ref 180, .ref 181, .ref 182, .ref 183, .ref 184, .ref 185, .ref 186, .ref 187, .ref 188, .ref 189, .ref 190, .ref 191, .ref 192, .ref 193, .ref 194, .ref 195, .ref 196, .ref 197, .ref 198, .ref 199, .ref 200, .ref 201, .ref 202, .ref 203, .ref 204, .ref 205, .ref 206, .ref 207, .ref 208, .ref 209, .ref 210, .ref 211, .ref 212, .ref 213, .ref 214, .ref 215, .ref 216, .ref 217, .ref 218, .ref 219, .ref 220, .ref 221, .ref 222, .ref 223, .ref 224, .ref 225, .ref 226, .ref 227, .ref 228, .ref 229, .ref 230, .ref 231, .ref 232, .ref 233, .ref 234, .ref 235, .ref 236, .ref 237, .ref 238, .ref 239, .ref 240, .ref 241, .ref 242, .ref 243, .ref 244, .ref 245, .ref 246, .ref 247, .ref 248, .ref 249, .ref 250, .ref 251, .ref 252, .ref 253, .ref 254, .ref 255, .ref 256, .ref 257, .ref 258, .ref 259, .ref 260, .ref 261, .ref 262], vm := .none },
  { cls := 29, slots := #[.ref 285, .ref 286, .ref 287, .ref 288, .ref 289, .ref 290, .ref 291, .ref 292, .ref 293, .ref 294, .ref 295], vm := .none },
  { cls := 29, slots := #[.ref 285, .ref 296, .ref 297, .ref 298, .ref 299, .ref 300, .ref 301, .ref 302, .ref 303, .ref 304, .ref 305, .ref 306, .ref 307, .ref 308, .ref 309, .ref 310], vm := .none },
  { cls := 7, slots := #[.int (-128)], vm := .none },
  { cls := 7, slots := #[.int (-127)], vm := .none },
  { cls := 7, slots := #[.int (-126)], vm := .none },
  { cls := 7, slots := #[.int (-125)], vm := .none },
  { cls := 7, slots := #[.int (-124)], vm := .none },
  { cls := 7, slots := #[.int (-123)], vm := .none },
  { cls := 7, slots := #[.int (-122)], vm := .none },
  { cls := 7, slots := #[.int (-121)], vm := .none },
  { cls := 7, slots := #[.int (-120)], vm := .none },
  { cls := 7, slots := #[.int (-119)], vm := .none },
  { cls := 7, slots := #[.int (-118)], vm := .none },
  { cls := 7, slots := #[.int (-117)], vm := .none },
  { cls := 7, slots := #[.int (-116)], vm := .none },
  { cls := 7, slots := #[.int (-115)], vm := .none },
  { cls := 7, slots := #[.int (-114)], vm := .none },
  { cls := 7, slots := #[.int (-113)], vm := .none },
  { cls := 7, slots := #[.int (-112)], vm := .none },
  { cls := 7, slots := #[.int (-111)], vm := .none },
  { cls := 7, slots := #[.int (-110)], vm := .none },
  { cls := 7, slots := #[.int (-109)], vm := .none },
  { cls := 7, slots := #[.int (-108)], vm := .none },
  { cls := 7, slots := #[.int (-107)], vm := .none },
  { cls := 7, slots := #[.int (-106)], vm := .none },
  { cls := 7, slots := #[.int (-105)], vm := .none },
  { cls := 7, slots := #[.int (-104)], vm := .none },
  { cls := 7, slots := #[.int (-103)], vm := .none },
  { cls := 7, slots := #[.int (-102)], vm := .none },
  { cls := 7, slots := #[.int (-101)], vm := .none },
  { cls := 7, slots := #[.int (-100)], vm := .none },
  { cls := 7, slots := #[.int (-99)], vm := .none },
  { cls := 7, slots := #[.int (-98)], vm := .none },
  { cls := 7, slots := #[.int (-97)], vm := .none },
  { cls := 7, slots := #[.int (-96)], vm := .none },
  { cls := 7, slots := #[.int (-95)], vm := .none },
  { cls := 7, slots := #[.int (-94)], vm := .none },
  { cls := 7, slots := #[.int (-93)], vm := .none },
  { cls := 7, slots := #[.int (-92)], vm := .none },
  { cls := 7, slots := #[.int (-91)], vm := .none },
  { cls := 7, slots := #[.int (-90)], vm := .none },
  { cls := 7, slots := #[.int (-89)], vm := .none },
  { cls := 7, slots := #[.int (-88)], vm := .none },
  { cls := 7, slots := #[.int (-87)], vm := .none },
  { cls := 7, slots := #[.int (-86)], vm := .none },
  { cls := 7, slots := #[.int (-85)], vm := .none },
  { cls := 7, slots := #[.int (-84)], vm := .none },
  { cls := 7, slots := #[.int (-83)], vm := .none },
  { cls := 7, slots := #[.int (-82)], vm := .none },
  { cls := 7, slots := #[.int (-81)], vm := .none },
  { cls := 7, slots := #[.int (-80)], vm := .none },
  { cls := 7, slots := #[.int (-79)], vm := .none },
  { cls := 7, slots := #[.int (-78)], vm := .none },
  { cls := 7, slots := #[.int (-77)], vm := .none },
  { cls := 7, slots := #[.int (-76)], vm := .none },
  { cls := 7, slots := #[.int (-75)], vm := .none },
  { cls := 7, slots := #[.int (-74)], vm := .none },
  { cls := 7, slots := #[.int (-73)], vm := .none },
  { cls := 7, slots := #[.int (-72)], vm := .none },
  { cls := 7, slots := #[.int (-71)], vm := .none },
  { cls := 7, slots := #[.int (-70)], vm := .none },
  { cls := 7, slots := #[.int (-69)], vm := .none },
  { cls := 7, slots := #[.int (-68)], vm := .none },
  { cls := 7, slots := #[.int (-67)], vm := .none },
  { cls := 7, slots := #[.int (-66)], vm := .none },
  { cls := 7, slots := #[.int (-65)], vm := .none },
  { cls := 7, slots := #[.int (-64)], vm := .none },
  { cls := 7, slots := #[.int (-63)], vm := .none },
  { cls := 7, slots := #[.int (-62)], vm := .none },
  { cls := 7, slots := #[.int (-61)], vm := .none },
  { cls := 7, slots := #[.int (-60)], vm := .none },
  { cls := 7, slots := #[.int (-59)], vm := .none },
  { cls := 7, slots := #[.int (-58)], vm := .none },
  { cls := 7, slots := #[.int (-57)], vm := .none },
  { cls := 7, slots := #[.int (-56)], vm := .none },
  { cls := 7, slots := #[.int (-55)], vm := .none },
  { cls := 7, slots := #[.int (-54)], vm := .none },
  { cls := 7, slots := #[.int (-53)], vm := .none },
  { cls := 7, slots := #[.int (-52)], vm := .none },
  { cls := 7, slots := #[.int (-51)], vm := .none },
  { cls := 7, slots := #[.int (-50)], vm := .none },
  { cls := 7, slots := #[.int (-49)], vm := .none },
  { cls := 7, slots := #[.int (-48)], vm := .none },
  { cls := 7, slots := #[.int (-47)], vm := .none },
  { cls := 7, slots := #[.int (-46)], vm := .none },
  { cls := 7, slots := #[.int (-45)], vm := .none },
  { cls := 7, slots := #[.int (-44)], vm := .none },
  { cls := 7, slots := #[.int (-43)], vm := .none },
  { cls := 7, slots := #[.int (-42)], vm := .none },
  { cls := 7, slots := #[.int (-41)], vm := .none },
  { cls := 7, slots := #[.int (-40)], vm := .none },
  { cls := 7, slots := #[.int (-39)], vm := .none },
  { cls := 7, slots := #[.int (-38)], vm := .none },
  { cls := 7, slots := #[.int (-37)], vm := .none },
  { cls := 7, slots := #[.int (-36)], vm := .none },
  { cls := 7, slots := #[.int (-35)], vm := .none },
  { cls := 7, slots := #[.int (-34)], vm := .none },
  { cls := 7, slots := #[.int (-33)], vm := .none },
  { cls := 7, slots := #[.int (-32)], vm := .none },
  { cls := 7, slots := #[.int (-31)], vm := .none },
  { cls := 7, slots := #[.int (-30)], vm := .none },
  { cls := 7, slots := #[.int (-29)], vm := .none },
  { cls := 7, slots := #[.int (-28)], vm := .none },
  { cls := 7, slots := #[.int (-27)], vm := .none },
  { cls := 7, slots := #[.int (-26)], vm := .none },
  { cls := 7, slots := #[.int (-25)], vm := .none },
  { cls := 7, slots := #[.int (-24)], vm := .none },
  { cls := 7, slots := #[.int (-23)], vm := .none },
  { cls := 7, slots := #[.int (-22)], vm := .none },
  { cls := 7, slots := #[.int (-21)], vm := .none },
  { cls := 7, slots := #[.int (-20)], vm := .none },
  { cls := 7, slots := #[.int (-19)], vm := .none },
  { cls := 7, slots := #[.int (-18)], vm := .none },
  { cls := 7, slots := #[.int (-17)], vm := .none },
  { cls := 7, slots := #[.int (-16)], vm := .none },
  { cls := 7, slots := #[.int (-15)], vm := .none },
  { cls := 7, slots := #[.int (-14)], vm := .none },
  { cls := 7, slots := #[.int (-13)], vm := .none },
  { cls := 7, slots := #[.int (-12)], vm := .none },
  { cls := 7, slots := #[.int (-11)], vm := .none },
  { cls := 7, slots := #[.int (-10)], vm := .none },
  { cls := 7, slots := #[.int (-9)], vm := .none },
  { cls := 7, slots := #[.int (-8)], vm := .none },
  { cls := 7, slots := #[.int (-7)], vm := .none },
  { cls := 7, slots := #[.int (-6)], vm := .none },
  { cls := 7, slots := #[.int (-5)], vm := .none },
  { cls := 7, slots := #[.int (-4)], vm := .none },
  { cls := 7, slots := #[.int (-3)], vm := .none },
  { cls := 7, slots := #[.int (-2)], vm := .none },
  { cls := 7, slots := #[.int (-1)], vm := .none },
  { cls := 7, slots := #[.int 0], vm := .none },
  { cls := 7, slots := #[.int 1], vm := .none },
  { cls := 7, slots := #[.int 2], vm := .none },
  { cls := 7, slots := #[.int 3], vm := .none },
  { cls := 7, slots := #[.int 4], vm := .none },
  { cls := 7, slots := #[.int 5], vm := .none },
  { cls := 7, slots := #[.int 6], vm := .none },
  { cls := 7, slots := #[.int 7], vm := .none },
  { cls := 7, slots := #[.int 8], vm := .none },
  { cls := 7, slots := #[.int 9], vm := .none },
  { cls := 7, slots := #[.int 10], vm := .none },
  { cls := 7, slots := #[.int 11], vm := .none },
  { cls := 7, slots := #[.int 12], vm := .none },
  { cls := 7, slots := #[.int 13], vm := .none },
  { cls := 7, slots := #[.int 14], vm := .none },
  { cls := 7, slots := #[.int 15], vm := .none },
  { cls := 7, slots := #[.int 16], vm := .none },
  { cls := 7, slots := #[.int 17], vm := .none },
  { cls := 7, slots := #[.int 18], vm := .none },
  { cls := 7, slots := #[.int 19], vm := .none },
  { cls := 7, slots := #[.int 20], vm := .none },
  { cls := 7, slots := #[.int 21], vm := .none },
  { cls := 7, slots := #[.int 22], vm := .none },
  { cls := 7, slots := #[.int 23], vm := .none },
  { cls := 7, slots := #[.int 24], vm := .none },
  { cls := 7, slots := #[.int 25], vm := .none },
  { cls := 7, slots := #[.int 26], vm := .none },
  { cls := 7, slots := #[.int 27], vm := .none },
  { cls := 7, slots := #[.int 28], vm := .none },
  { cls := 7, slots := #[.int 29], vm := .none },
  { cls := 7, slots := #[.int 30], vm := .none },
  { cls := 7, slots := #[.int 31], vm := .none },
  { cls := 7, slots := #[.int 32], vm := .none },
  { cls := 7, slots := #[.int 33], vm := .none },
  { cls := 7, slots := #[.int 34], vm := .none },
  { cls := 7, slots := #[.int 35], vm := .none },
  { cls := 7, slots := #[.int 36], vm := .none },
  { cls := 7, slots := #[.int 37], vm := .none },
  { cls := 7, slots := #[.int 38], vm := .none },
  { cls := 7, slots := #[.int 39], vm := .none },
  { cls := 7, slots := #[.int 40], vm := .none },
  { cls := 7, slots := #[.int 41], vm := .none },
  { cls := 7, slots := #[.int 42], vm := .none },
  { cls := 7, slots := #[.int 43], vm := .none },
  { cls := 7, slots := #[.int 44], vm := .none },
  { cls := 7, slots := #[.int 45], vm := .none },
  { cls := 7, slots := #[.int 46], vm := .none },
  { cls := 7, slots := #[.int 47], vm := .none },
  { cls := 7, slots := #[.int 48], vm := .none },
  { cls := 7, slots := #[.int 49], vm := .none },
  { cls := 7, slots := #[.int 50], vm := .none },
  { cls := 7, slots := #[.int 51], vm := .none },
  { cls := 7, slots := #[.int 52], vm := .none },
  { cls := 7, slots := #[.int 53], vm := .none },
  { cls := 7, slots := #[.int 54], vm := .none },
  { cls := 7, slots := #[.int 55], vm := .none },
  { cls := 7, slots := #[.int 56], vm := .none },
  { cls := 7, slots := #[.int 57], vm := .none },
  { cls := 7, slots := #[.int 58], vm := .none },
  { cls := 7, slots := #[.int 59], vm := .none },
  { cls := 7, slots := #[.int 60], vm := .none },
  { cls := 7, slots := #[.int 61], vm := .none },
  { cls := 7, slots := #[.int 62], vm := .none },
  { cls := 7, slots := #[.int 63], vm := .none },
  { cls := 7, slots := #[.int 64], vm := .none },
  { cls := 7, slots := #[.int 65], vm := .none },
  { cls := 7, slots := #[.int 66], vm := .none },
  { cls := 7, slots := #[.int 67], vm := .none },
  { cls := 7, slots := #[.int 68], vm := .none },
  { cls := 7, slots := #[.int 69], vm := .none },
  { cls := 7, slots := #[.int 70], vm := .none },
  { cls := 7, slots := #[.int 71], vm := .none },
  { cls := 7, slots := #[.int 72], vm := .none },
  { cls := 7, slots := #[.int 73], vm := .none },
  { cls := 7, slots := #[.int 74], vm := .none },
  { cls := 7, slots := #[.int 75], vm := .none },
  { cls := 7, slots := #[.int 76], vm := .none },
  { cls := 7, slots := #[.int 77], vm := .none },
  { cls := 7, slots := #[.int 78], vm := .none },
  { cls := 7, slots := #[.int 79], vm := .none },
  { cls := 7, slots := #[.int 80], vm := .none },
  { cls := 7, slots := #[.int 81], vm := .none },
  { cls := 7, slots := #[.int 82], vm := .none },
  { cls := 7, slots := #[.int 83], vm := .none },
  { cls := 7, slots := #[.int 84], vm := .none },
  { cls := 7, slots := #[.int 85], vm := .none },
  { cls := 7, slots := #[.int 86], vm := .none },
  { cls := 7, slots := #[.int 87], vm := .none },
  { cls := 7, slots := #[.int 88], vm := .none },
  { cls := 7, slots := #[.int 89], vm := .none },
  { cls := 7, slots := #[.int 90], vm := .none },
  { cls := 7, slots := #[.int 91], vm := .none },
  { cls := 7, slots := #[.int 92], vm := .none },
  { cls := 7, slots := #[.int 93], vm := .none },
  { cls := 7, slots := #[.int 94], vm := .none },
  { cls := 7, slots := #[.int 95], vm := .none },
  { cls := 7, slots := #[.int 96], vm := .none },
  { cls := 7, slots := #[.int 97], vm := .none },
  { cls := 7, slots := #[.int 98], vm := .none },
  { cls := 7, slots := #[.int 99], vm := .none },
  { cls := 7, slots := #[.int 100], vm := .none },
  { cls := 7, slots := #[.int 101], vm := .none },
  { cls := 7, slots := #[.int 102], vm := .none },
  { cls := 7, slots := #[.int 103], vm := .none },
  { cls := 7, slots := #[.int 104], vm := .none },
  { cls := 7, slots := #[.int 105], vm := .none },
  { cls := 7, slots := #[.int 106], vm := .none },
  { cls := 7, slots := #[.int 107], vm := .none },
  { cls := 7, slots := #[.int 108], vm := .none },
  { cls := 7, slots := #[.int 109], vm := .none },
  { cls := 7, slots := #[.int 110], vm := .none },
  { cls := 7, slots := #[.int 111], vm := .none },
  { cls := 7, slots := #[.int 112], vm := .none },
  { cls := 7, slots := #[.int 113], vm := .none },
  { cls := 7, slots := #[.int 114], vm := .none },
  { cls := 7, slots := #[.int 115], vm := .none },
  { cls := 7, slots := #[.int 116], vm := .none },
  { cls := 7, slots := #[.int 117], vm := .none },
  { cls := 7, slots := #[.int 118], vm := .none },
  { cls := 7, slots := #[.int 119], vm := .none },
  { cls := 7, slots := #[.int 120], vm := .none },
  { cls := 7, slots := #[.int 121], vm := .none },
  { cls := 7, slots := #[.int 122], vm := .none },
  { cls := 7, slots := #[.int 123], vm := .none },
  { cls := 7, slots := #[.int 124], vm := .none },
  { cls := 7, slots := #[.int 125], vm := .none },
  { cls := 7, slots := #[.int 126], vm := .none },
  { cls := 7, slots := #[.int 127], vm := .none },
  { cls := 25, slots := #[], vm := .none },
  { cls := 18, slots := #[.int 0, .ref 263, .int 0, .int 0, .int 0, .int 0], vm := .none },
  { cls := 25, slots := #[.int 1], vm := .none },
  { cls := 18, slots := #[.int 1, .ref 265, .int 0, .int 0, .int 0, .int 0], vm := .none },
  { cls := 25, slots := #[.int 2], vm := .none },
  { cls := 18, slots := #[.int 1, .ref 267, .int 0, .int 0, .int 0, .int 0], vm := .none },
  { cls := 25, slots := #[.int 3], vm := .none },
  { cls := 18, slots := #[.int 1, .ref 269, .int 0, .int 0, .int 0, .int 0], vm := .none },
  { cls := 25, slots := #[.int 4], vm := .none },
  { cls := 18, slots := #[.int 1, .ref 271, .int 0, .int 0, .int 0, .int 0], vm := .none },
  { cls := 25, slots := #[.int 5], vm := .none },
  { cls := 18, slots := #[.int 1, .ref 273, .int 0, .int 0, .int 0, .int 0], vm := .none },
  { cls := 25, slots := #[.int 6], vm := .none },
  { cls := 18, slots := #[.int 1, .ref 275, .int 0, .int 0, .int 0, .int 0], vm := .none },
  { cls := 25, slots := #[.int 7], vm := .none },
  { cls := 18, slots := #[.int 1, .ref 277, .int 0, .int 0, .int 0, .int 0], vm := .none },
  { cls := 25, slots := #[.int 8], vm := .none },
  { cls := 18, slots := #[.int 1, .ref 279, .int 0, .int 0, .int 0, .int 0], vm := .none },
  { cls := 25, slots := #[.int 9], vm := .none },
  { cls := 18, slots := #[.int 1, .ref 281, .int 0, .int 0, .int 0, .int 0], vm := .none },
  { cls := 25, slots := #[.int 10], vm := .none },
  { cls := 18, slots := #[.int 1, .ref 283, .int 0, .int 0, .int 0, .int 0], vm := .none },
  { cls := 9, slots := #[.ref 264, .int 0, .int 1, .null, .long 0], vm := .none },
  { cls := 9, slots := #[.ref 266, .int 0, .int 1, .null, .long 1], vm := .none },
  { cls := 9, slots := #[.ref 268, .int 0, .int 1, .null, .long 2], vm := .none },
  { cls := 9, slots := #[.ref 270, .int 0, .int 1, .null, .long 3], vm := .none },
  { cls := 9, slots := #[.ref 272, .int 0, .int 1, .null, .long 4], vm := .none },
  { cls := 9, slots := #[.ref 274, .int 0, .int 1, .null, .long 5], vm := .none },
  { cls := 9, slots := #[.ref 276, .int 0, .int 1, .null, .long 6], vm := .none },
  { cls := 9, slots := #[.ref 278, .int 0, .int 1, .null, .long 7], vm := .none },
  { cls := 9, slots := #[.ref 280, .int 0, .int 1, .null, .long 8], vm := .none },
  { cls := 9, slots := #[.ref 282, .int 0, .int 1, .null, .long 9], vm := .none },
  { cls := 9, slots := #[.ref 284, .int 0, .int 2, .null, .long 10], vm := .none },
  { cls := 9, slots := #[.ref 264, .int 1, .int 1, .null, .long 0], vm := .none },
  { cls := 9, slots := #[.ref 264, .int 2, .int 1, .null, .long 0], vm := .none },
  { cls := 9, slots := #[.ref 264, .int 3, .int 1, .null, .long 0], vm := .none },
  { cls := 9, slots := #[.ref 264, .int 4, .int 1, .null, .long 0], vm := .none },
  { cls := 9, slots := #[.ref 264, .int 5, .int 1, .null, .long 0], vm := .none },
  { cls := 9, slots := #[.ref 264, .int 6, .int 1, .null, .long 0], vm := .none },
  { cls := 9, slots := #[.ref 264, .int 7, .int 1, .null, .long 0], vm := .none },
  { cls := 9, slots := #[.ref 264, .int 8, .int 1, .null, .long 0], vm := .none },
  { cls := 9, slots := #[.ref 264, .int 9, .int 1, .null, .long 0], vm := .none },
  { cls := 9, slots := #[.ref 264, .int 10, .int 1, .null, .long 0], vm := .none },
  { cls := 9, slots := #[.ref 264, .int 11, .int 1, .null, .long 0], vm := .none },
  { cls := 9, slots := #[.ref 264, .int 12, .int 1, .null, .long 0], vm := .none },
  { cls := 9, slots := #[.ref 264, .int 13, .int 1, .null, .long 0], vm := .none },
  { cls := 9, slots := #[.ref 264, .int 14, .int 1, .null, .long 0], vm := .none },
  { cls := 9, slots := #[.ref 264, .int 15, .int 1, .null, .long 0], vm := .none },
  { cls := 20, slots := #[.null, .int 0, .int 0, .int 0], vm := .none },
  { cls := 16, slots := #[.ref 311, .int 4, .int 0, .int 4], vm := .none },
  { cls := 27, slots := #[.long 1, .long 10, .long 100, .long 1000, .long 10000, .long 100000, .long 1000000, .long 10000000, .long 100000000, .long 1000000000, .long 10000000000, .long 100000000000, .long 1000000000000, .long 10000000000000, .long 100000000000000, .long 1000000000000000, .long 10000000000000000, .long 100000000000000000, .long 1000000000000000000], vm := .none },
  { cls := 27, slots := #[.long 9223372036854775807, .long 922337203685477580, .long 92233720368547758, .long 9223372036854775, .long 922337203685477, .long 92233720368547, .long 9223372036854, .long 922337203685, .long 92233720368, .long 9223372036, .long 922337203, .long 92233720, .long 9223372, .long 922337, .long 92233, .long 9223, .long 922, .long 92, .long 9], vm := .none }]
def classes : Array Class := #[k0, k1, k2, k3, k4, k5, k6, k7, k8, k9, k10, k11, k12, k13, k14, k15, k16, k17, k18, k19, k20, k21, k22, k23, k24, k25, k26, k27, k28, k29]
def interned : List (Array UInt16 × Addr) := []
def slotsUsed : Nat := 881
def theMethod : MethodId := ⟨1, 2⟩
def args0 : Array Value := #[.int 97, .int 113, .int 1, .int 2]
def aboutOver (below : List Frame) : State where
  vm := { classes := classes, interned := interned.toArray }
  heap := heap
  slotsUsed := slotsUsed
  threads := #[{ frames := .invoking theMethod args0 :: below }]
def below0 : List Frame := [.native { method := ⟨0, 0⟩, args := #[] }]
def about1 : State := aboutOver below0
def p0 : Program := .bare "" "" ""
def e0 : Env := launch0.env 0 0 0
theorem w_frames : about1.frames = Frame.invoking theMethod args0 :: below0 := rfl
set_option maxRecDepth 65536 in
theorem w_args : argsFit about1.vm theMethod args0 = true := by decide +kernel
set_option maxRecDepth 65536 in
theorem w_heap : heapFits about1 = true := by decide +kernel
set_option maxRecDepth 65536 in
theorem w_runnable : about1.curStatus? = some .runnable := by decide +kernel
set_option maxRecDepth 65536 in
theorem w_alone : about1.alone = true := by decide +kernel
set_option maxRecDepth 65536 in
theorem w_named : about1.methodNamed? x = some theMethod := by decide +kernel
set_option maxRecDepth 65536 in
theorem w_hears : about1.hears theMethod below0 = true := by decide +kernel
set_option maxRecDepth 65536 in
theorem w_ripe : about1.ripe theMethod args0 below0 = true := by decide +kernel
theorem w_running : about1.status = .running := rfl
set_option maxRecDepth 65536 in
theorem w_room : about1.hasRoom e0.platform room_1 = true :=
  launch0.hasRoom_least _ room_1 (by decide +kernel) (by decide +kernel) (by decide +kernel) (by decide +kernel) (by decide +kernel) (by decide +kernel)
theorem allAtoms_all (ts : List Jvm.Cond) (a : Array Jvm.Value) (st : Jvm.State) : (allAtoms ts).before a st = ts.all (fun c => c.before a st) := by
  induction ts with
  | nil => rfl
  | cons c t ih =>
    show (Jvm.Cond.and c (allAtoms t)).before a st = _
    rw [Jvm.Cond.before_and, ih, List.all_cons]
def words1 : List Jvm.Cond := Jvm.Cond.code x code maxLocals ret :: tables_1
/-- a 'code' word, met by the world's own term for the bytes: nothing is compared byte by byte -/
theorem code_word {y : MethodName} {bytes : ByteArray} {mx : Nat} {rt : Option FieldType} {a : Array Value} {s : State} {m : MethodId} {meth : Method} {c : Code} (h1 : s.methodNamed? y = some m) (h2 : s.vm.method? m = some meth) (h3 : meth.code = some c) (h4 : c.code = bytes)
    (h5 : (c.maxLocals == mx && c.exceptionTable.isEmpty && decide (c.maxStack ≤ mostOperands) && decide (meth.sig.returnType = rt) && !meth.locks && decide (parseMethodDescriptor y.desc = some meth.sig)) = true) : (Jvm.Cond.code y bytes mx rt).before a s = true := by
  simp only [Bool.and_eq_true, beq_iff_eq, Bool.not_eq_true', decide_eq_true_eq] at h5
  obtain ⟨⟨⟨⟨⟨g1, g2⟩, g3⟩, g4⟩, g5⟩, g6⟩ := h5
  simp [Cond.before, Cond.holds, Cond.value, h1, h2, h3, h4, g1, g2, g3, g4, g5, g6]
def isCode : Jvm.Cond → Bool
  | .code _ _ _ _ => true
  | _ => false
theorem all_split {L : List Jvm.Cond} {P : Jvm.Cond → Bool} (h1 : L.all (fun c => isCode c || P c) = true) (h2 : ∀ c ∈ L.filter isCode, P c = true) : L.all P = true := by
  refine List.all_eq_true.mpr fun c hc => ?_
  have h := List.all_eq_true.mp h1 c hc
  rcases Bool.eq_false_or_eq_true (isCode c) with hi | hi
  · exact h2 c (List.mem_filter.mpr ⟨hc, hi⟩)
  · simpa [hi] using h
set_option maxRecDepth 65536 in
theorem w_c0 : (Jvm.Cond.code x code maxLocals ret).before args0 about1 = true := code_word (m := ⟨1, 2⟩) (meth := k1m2) (c := k1c2) (by decide +kernel) rfl rfl rfl (by decide +kernel)
set_option maxRecDepth 65536 in
theorem w_c1 : (Jvm.Cond.code ({ cls := "java/lang/Integer", name := "valueOf", desc := "(I)Ljava/lang/Integer;" } : Jvm.MethodName) jdk_33_method_22_code (1 : Nat) (Option.some (Jvm.ClassFile.FieldType.object "java/lang/Integer"))).before args0 about1 = true := code_word (m := ⟨7, 0⟩) (meth := k7m0) (c := k7c0) (by decide +kernel) rfl rfl rfl (by decide +kernel)
set_option maxRecDepth 65536 in
theorem w_c2 : (Jvm.Cond.code ({ cls := "java/math/BigDecimal", name := "valueOf", desc := "(JI)Ljava/math/BigDecimal;" } : Jvm.MethodName) jdk_17_method_20_code (3 : Nat) (Option.some (Jvm.ClassFile.FieldType.object "java/math/BigDecimal"))).before args0 about1 = true := code_word (m := ⟨9, 1⟩) (meth := k9m1) (c := k9c1) (by decide +kernel) rfl rfl rfl (by decide +kernel)
set_option maxRecDepth 65536 in
theorem w_c3 : (Jvm.Cond.code ({ cls := "java/math/BigDecimal", name := "valueOf", desc := "(J)Ljava/math/BigDecimal;" } : Jvm.MethodName) jdk_17_method_21_code (2 : Nat) (Option.some (Jvm.ClassFile.FieldType.object "java/math/BigDecimal"))).before args0 about1 = true := code_word (m := ⟨9, 2⟩) (meth := k9m2) (c := k9c2) (by decide +kernel) rfl rfl rfl (by decide +kernel)
set_option maxRecDepth 65536 in
theorem w_c4 : (Jvm.Cond.code ({ cls := "java/math/BigDecimal", name := "<init>", desc := "(Ljava/math/BigInteger;JII)V" } : Jvm.MethodName) jdk_17_method_1_code (6 : Nat) (Option.none : Option Jvm.ClassFile.FieldType)).before args0 about1 = true := code_word (m := ⟨9, 0⟩) (meth := k9m0) (c := k9c0) (by decide +kernel) rfl rfl rfl (by decide +kernel)
set_option maxRecDepth 65536 in
theorem w_c5 : (Jvm.Cond.code ({ cls := "java/lang/Number", name := "<init>", desc := "()V" } : Jvm.MethodName) jdk_18_method_1_code (1 : Nat) (Option.none : Option Jvm.ClassFile.FieldType)).before args0 about1 = true := code_word (m := ⟨3, 0⟩) (meth := k3m0) (c := k3c0) (by decide +kernel) rfl rfl rfl (by decide +kernel)
set_option maxRecDepth 65536 in
theorem w_c6 : (Jvm.Cond.code ({ cls := "java/lang/Object", name := "<init>", desc := "()V" } : Jvm.MethodName) object_method_1_code (1 : Nat) (Option.none : Option Jvm.ClassFile.FieldType)).before args0 about1 = true := code_word (m := ⟨0, 0⟩) (meth := k0m0) (c := k0c0) (by decide +kernel) rfl rfl rfl (by decide +kernel)
set_option maxRecDepth 65536 in
theorem w_c7 : (Jvm.Cond.code ({ cls := "com/example/tipple/tipple/Arithmetic", name := "<init>", desc := "(Ljava/lang/Integer;)V" } : Jvm.MethodName) prog_7_method_1_code (2 : Nat) (Option.none : Option Jvm.ClassFile.FieldType)).before args0 about1 = true := code_word (m := ⟨10, 0⟩) (meth := k10m0) (c := k10c0) (by decide +kernel) rfl rfl rfl (by decide +kernel)
set_option maxRecDepth 65536 in
theorem w_c8 : (Jvm.Cond.code ({ cls := "java/util/Objects", name := "requireNonNull", desc := "(Ljava/lang/Object;)Ljava/lang/Object;" } : Jvm.MethodName) jdk_31_method_10_code (1 : Nat) (Option.some (Jvm.ClassFile.FieldType.object "java/lang/Object"))).before args0 about1 = true := code_word (m := ⟨12, 1⟩) (meth := k12m1) (c := k12c1) (by decide +kernel) rfl rfl rfl (by decide +kernel)
set_option maxRecDepth 65536 in
theorem w_c9 : (Jvm.Cond.code ({ cls := "com/example/tipple/tipple/Arithmetic$RunningSum", name := "<init>", desc := "(Lcom/example/tipple/tipple/Arithmetic;)V" } : Jvm.MethodName) prog_8_method_1_code (2 : Nat) (Option.none : Option Jvm.ClassFile.FieldType)).before args0 about1 = true := code_word (m := ⟨11, 0⟩) (meth := k11m0) (c := k11c0) (by decide +kernel) rfl rfl rfl (by decide +kernel)
set_option maxRecDepth 65536 in
theorem w_c10 : (Jvm.Cond.code ({ cls := "com/example/tipple/tipple/Arithmetic$RunningSum", name := "value", desc := "()Ljava/math/BigDecimal;" } : Jvm.MethodName) prog_8_method_3_code (1 : Nat) (Option.some (Jvm.ClassFile.FieldType.object "java/math/BigDecimal"))).before args0 about1 = true := code_word (m := ⟨11, 2⟩) (meth := k11m2) (c := k11c2) (by decide +kernel) rfl rfl rfl (by decide +kernel)
set_option maxRecDepth 65536 in
theorem w_c11 : (Jvm.Cond.code ({ cls := "java/math/BigDecimal", name := "equals", desc := "(Ljava/lang/Object;)Z" } : Jvm.MethodName) jdk_17_method_72_code (7 : Nat) (Option.some Jvm.ClassFile.FieldType.boolean)).before args0 about1 = true := code_word (m := ⟨9, 12⟩) (meth := k9m12) (c := k9c12) (by decide +kernel) rfl rfl rfl (by decide +kernel)
set_option maxRecDepth 65536 in
theorem w_c12 : (Jvm.Cond.code ({ cls := "com/example/tipple/tipple/Arithmetic$RunningSum", name := "add", desc := "(Ljava/math/BigDecimal;)V" } : Jvm.MethodName) prog_8_method_2_code (2 : Nat) (Option.none : Option Jvm.ClassFile.FieldType)).before args0 about1 = true := code_word (m := ⟨11, 1⟩) (meth := k11m1) (c := k11c1) (by decide +kernel) rfl rfl rfl (by decide +kernel)
set_option maxRecDepth 65536 in
theorem w_c13 : (Jvm.Cond.code ({ cls := "com/example/tipple/tipple/Arithmetic", name := "sum", desc := "(Ljava/math/BigDecimal;Ljava/math/BigDecimal;)Ljava/math/BigDecimal;" } : Jvm.MethodName) prog_7_method_2_code (3 : Nat) (Option.some (Jvm.ClassFile.FieldType.object "java/math/BigDecimal"))).before args0 about1 = true := code_word (m := ⟨10, 1⟩) (meth := k10m1) (c := k10c1) (by decide +kernel) rfl rfl rfl (by decide +kernel)
set_option maxRecDepth 65536 in
theorem w_c14 : (Jvm.Cond.code ({ cls := "java/math/BigDecimal", name := "add", desc := "(Ljava/math/BigDecimal;)Ljava/math/BigDecimal;" } : Jvm.MethodName) jdk_17_method_26_code (2 : Nat) (Option.some (Jvm.ClassFile.FieldType.object "java/math/BigDecimal"))).before args0 about1 = true := code_word (m := ⟨9, 4⟩) (meth := k9m4) (c := k9c4) (by decide +kernel) rfl rfl rfl (by decide +kernel)
set_option maxRecDepth 65536 in
theorem w_c15 : (Jvm.Cond.code ({ cls := "java/math/BigDecimal", name := "add", desc := "(JIJI)Ljava/math/BigDecimal;" } : Jvm.MethodName) jdk_17_method_134_code (12 : Nat) (Option.some (Jvm.ClassFile.FieldType.object "java/math/BigDecimal"))).before args0 about1 = true := code_word (m := ⟨9, 23⟩) (meth := k9m23) (c := k9c23) (by decide +kernel) rfl rfl rfl (by decide +kernel)
set_option maxRecDepth 65536 in
theorem w_c16 : (Jvm.Cond.code ({ cls := "java/math/BigDecimal", name := "checkScale", desc := "(JJ)I" } : Jvm.MethodName) jdk_17_method_113_code (5 : Nat) (Option.some Jvm.ClassFile.FieldType.int)).before args0 about1 = true := code_word (m := ⟨9, 17⟩) (meth := k9m17) (c := k9c17) (by decide +kernel) rfl rfl rfl (by decide +kernel)
set_option maxRecDepth 65536 in
theorem w_c17 : (Jvm.Cond.code ({ cls := "java/math/BigDecimal", name := "longMultiplyPowerTen", desc := "(JI)J" } : Jvm.MethodName) jdk_17_method_97_code (7 : Nat) (Option.some Jvm.ClassFile.FieldType.long)).before args0 about1 = true := code_word (m := ⟨9, 13⟩) (meth := k9m13) (c := k9c13) (by decide +kernel) rfl rfl rfl (by decide +kernel)
set_option maxRecDepth 65536 in
theorem w_c18 : (Jvm.Cond.code ({ cls := "java/lang/Math", name := "abs", desc := "(J)J" } : Jvm.MethodName) jdk_29_method_61_code (2 : Nat) (Option.some Jvm.ClassFile.FieldType.long)).before args0 about1 = true := code_word (m := ⟨13, 1⟩) (meth := k13m1) (c := k13c1) (by decide +kernel) rfl rfl rfl (by decide +kernel)
set_option maxRecDepth 65536 in
theorem w_c19 : (Jvm.Cond.code ({ cls := "java/math/BigDecimal", name := "add", desc := "(JJI)Ljava/math/BigDecimal;" } : Jvm.MethodName) jdk_17_method_133_code (7 : Nat) (Option.some (Jvm.ClassFile.FieldType.object "java/math/BigDecimal"))).before args0 about1 = true := code_word (m := ⟨9, 22⟩) (meth := k9m22) (c := k9c22) (by decide +kernel) rfl rfl rfl (by decide +kernel)
set_option maxRecDepth 65536 in
theorem w_c20 : (Jvm.Cond.code ({ cls := "java/math/BigDecimal", name := "add", desc := "(JJ)J" } : Jvm.MethodName) jdk_17_method_132_code (6 : Nat) (Option.some Jvm.ClassFile.FieldType.long)).before args0 about1 = true := code_word (m := ⟨9, 21⟩) (meth := k9m21) (c := k9c21) (by decide +kernel) rfl rfl rfl (by decide +kernel)
set_option maxRecDepth 65536 in
theorem w_c21 : (Jvm.Cond.code ({ cls := "com/example/tipple/tipple/Arithmetic", name := "carried", desc := "(Ljava/math/BigDecimal;)Ljava/math/BigDecimal;" } : Jvm.MethodName) prog_7_method_7_code (4 : Nat) (Option.some (Jvm.ClassFile.FieldType.object "java/math/BigDecimal"))).before args0 about1 = true := code_word (m := ⟨10, 2⟩) (meth := k10m2) (c := k10c2) (by decide +kernel) rfl rfl rfl (by decide +kernel)
set_option maxRecDepth 65536 in
theorem w_c22 : (Jvm.Cond.code ({ cls := "java/math/BigDecimal", name := "scale", desc := "()I" } : Jvm.MethodName) jdk_17_method_59_code (1 : Nat) (Option.some Jvm.ClassFile.FieldType.int)).before args0 about1 = true := code_word (m := ⟨9, 6⟩) (meth := k9m6) (c := k9c6) (by decide +kernel) rfl rfl rfl (by decide +kernel)
set_option maxRecDepth 65536 in
theorem w_c23 : (Jvm.Cond.code ({ cls := "java/lang/Integer", name := "intValue", desc := "()I" } : Jvm.MethodName) jdk_33_method_27_code (1 : Nat) (Option.some Jvm.ClassFile.FieldType.int)).before args0 about1 = true := code_word (m := ⟨7, 1⟩) (meth := k7m1) (c := k7c1) (by decide +kernel) rfl rfl rfl (by decide +kernel)
set_option maxRecDepth 65536 in
theorem w_c24 : (Jvm.Cond.code ({ cls := "java/lang/Math", name := "max", desc := "(II)I" } : Jvm.MethodName) jdk_29_method_65_code (2 : Nat) (Option.some Jvm.ClassFile.FieldType.int)).before args0 about1 = true := code_word (m := ⟨13, 2⟩) (meth := k13m2) (c := k13c2) (by decide +kernel) rfl rfl rfl (by decide +kernel)
set_option maxRecDepth 65536 in
theorem w_c25 : (Jvm.Cond.code ({ cls := "com/example/tipple/tipple/RunningSumValuePinLaw", name := "pow10", desc := "(I)J" } : Jvm.MethodName) method_2_code (2 : Nat) (Option.some Jvm.ClassFile.FieldType.long)).before args0 about1 = true := code_word (m := ⟨1, 1⟩) (meth := k1m1) (c := k1c1) (by decide +kernel) rfl rfl rfl (by decide +kernel)
set_option maxRecDepth 65536 in
theorem w_c26 : (Jvm.Cond.code ({ cls := "com/example/tipple/tipple/Decimals", name := "round", desc := "(Ljava/math/BigDecimal;I)Ljava/math/BigDecimal;" } : Jvm.MethodName) prog_24_method_3_code (2 : Nat) (Option.some (Jvm.ClassFile.FieldType.object "java/math/BigDecimal"))).before args0 about1 = true := code_word (m := ⟨14, 1⟩) (meth := k14m1) (c := k14c1) (by decide +kernel) rfl rfl rfl (by decide +kernel)
set_option maxRecDepth 65536 in
theorem w_c27 : (Jvm.Cond.code ({ cls := "java/math/BigDecimal", name := "setScale", desc := "(ILjava/math/RoundingMode;)Ljava/math/BigDecimal;" } : Jvm.MethodName) jdk_17_method_63_code (3 : Nat) (Option.some (Jvm.ClassFile.FieldType.object "java/math/BigDecimal"))).before args0 about1 = true := code_word (m := ⟨9, 8⟩) (meth := k9m8) (c := k9c8) (by decide +kernel) rfl rfl rfl (by decide +kernel)
set_option maxRecDepth 65536 in
theorem w_c28 : (Jvm.Cond.code ({ cls := "java/math/BigDecimal", name := "setScale", desc := "(II)Ljava/math/BigDecimal;" } : Jvm.MethodName) jdk_17_method_64_code (8 : Nat) (Option.some (Jvm.ClassFile.FieldType.object "java/math/BigDecimal"))).before args0 about1 = true := code_word (m := ⟨9, 9⟩) (meth := k9m9) (c := k9c9) (by decide +kernel) rfl rfl rfl (by decide +kernel)
set_option maxRecDepth 65536 in
theorem w_c29 : (Jvm.Cond.code ({ cls := "java/math/BigDecimal", name := "signum", desc := "()I" } : Jvm.MethodName) jdk_17_method_58_code (1 : Nat) (Option.some Jvm.ClassFile.FieldType.int)).before args0 about1 = true := code_word (m := ⟨9, 5⟩) (meth := k9m5) (c := k9c5) (by decide +kernel) rfl rfl rfl (by decide +kernel)
set_option maxRecDepth 65536 in
theorem w_c30 : (Jvm.Cond.code ({ cls := "java/lang/Long", name := "signum", desc := "(J)I" } : Jvm.MethodName) jdk_35_method_57_code (2 : Nat) (Option.some Jvm.ClassFile.FieldType.int)).before args0 about1 = true := code_word (m := ⟨17, 2⟩) (meth := k17m2) (c := k17c2) (by decide +kernel) rfl rfl rfl (by decide +kernel)
set_option maxRecDepth 65536 in
theorem w_c31 : (Jvm.Cond.code ({ cls := "java/math/BigDecimal", name := "checkScale", desc := "(J)I" } : Jvm.MethodName) jdk_17_method_106_code (5 : Nat) (Option.some Jvm.ClassFile.FieldType.int)).before args0 about1 = true := code_word (m := ⟨9, 15⟩) (meth := k9m15) (c := k9c15) (by decide +kernel) rfl rfl rfl (by decide +kernel)
set_option maxRecDepth 65536 in
theorem w_c32 : (Jvm.Cond.code ({ cls := "java/math/BigDecimal", name := "divideAndRound", desc := "(JJIII)Ljava/math/BigDecimal;" } : Jvm.MethodName) jdk_17_method_119_code (13 : Nat) (Option.some (Jvm.ClassFile.FieldType.object "java/math/BigDecimal"))).before args0 about1 = true := code_word (m := ⟨9, 18⟩) (meth := k9m18) (c := k9c18) (by decide +kernel) rfl rfl rfl (by decide +kernel)
set_option maxRecDepth 65536 in
theorem w_c33 : (Jvm.Cond.code ({ cls := "java/math/BigDecimal", name := "needIncrement", desc := "(JIIJJ)Z" } : Jvm.MethodName) jdk_17_method_122_code (9 : Nat) (Option.some Jvm.ClassFile.FieldType.boolean)).before args0 about1 = true := code_word (m := ⟨9, 20⟩) (meth := k9m20) (c := k9c20) (by decide +kernel) rfl rfl rfl (by decide +kernel)
set_option maxRecDepth 65536 in
theorem w_c34 : (Jvm.Cond.code ({ cls := "java/math/BigDecimal", name := "longCompareMagnitude", desc := "(JJ)I" } : Jvm.MethodName) jdk_17_method_108_code (4 : Nat) (Option.some Jvm.ClassFile.FieldType.int)).before args0 about1 = true := code_word (m := ⟨9, 16⟩) (meth := k9m16) (c := k9c16) (by decide +kernel) rfl rfl rfl (by decide +kernel)
set_option maxRecDepth 65536 in
theorem w_c35 : (Jvm.Cond.code ({ cls := "java/lang/Long", name := "compare", desc := "(JJ)I" } : Jvm.MethodName) jdk_35_method_42_code (4 : Nat) (Option.some Jvm.ClassFile.FieldType.int)).before args0 about1 = true := code_word (m := ⟨17, 0⟩) (meth := k17m0) (c := k17c0) (by decide +kernel) rfl rfl rfl (by decide +kernel)
set_option maxRecDepth 65536 in
theorem w_c36 : (Jvm.Cond.code ({ cls := "java/math/BigDecimal", name := "commonNeedIncrement", desc := "(IIIZ)Z" } : Jvm.MethodName) jdk_17_method_121_code (4 : Nat) (Option.some Jvm.ClassFile.FieldType.boolean)).before args0 about1 = true := code_word (m := ⟨9, 19⟩) (meth := k9m19) (c := k9c19) (by decide +kernel) rfl rfl rfl (by decide +kernel)
set_option maxRecDepth 65536 in
theorem w_c37 : (Jvm.Cond.code ({ cls := "java/math/BigDecimal", name := "compareTo", desc := "(Ljava/math/BigDecimal;)I" } : Jvm.MethodName) jdk_17_method_70_code (6 : Nat) (Option.some Jvm.ClassFile.FieldType.int)).before args0 about1 = true := code_word (m := ⟨9, 10⟩) (meth := k9m10) (c := k9c10) (by decide +kernel) rfl rfl rfl (by decide +kernel)
set_option maxRecDepth 65536 in
theorem w_c38 : (Jvm.Cond.code ({ cls := "java/math/BigDecimal", name := "compareMagnitude", desc := "(Ljava/math/BigDecimal;)I" } : Jvm.MethodName) jdk_17_method_71_code (13 : Nat) (Option.some Jvm.ClassFile.FieldType.int)).before args0 about1 = true := code_word (m := ⟨9, 11⟩) (meth := k9m11) (c := k9c11) (by decide +kernel) rfl rfl rfl (by decide +kernel)
set_option maxRecDepth 65536 in
theorem w_c39 : (Jvm.Cond.code ({ cls := "java/math/BigDecimal", name := "precision", desc := "()I" } : Jvm.MethodName) jdk_17_method_60_code (4 : Nat) (Option.some Jvm.ClassFile.FieldType.int)).before args0 about1 = true := code_word (m := ⟨9, 7⟩) (meth := k9m7) (c := k9c7) (by decide +kernel) rfl rfl rfl (by decide +kernel)
set_option maxRecDepth 65536 in
theorem w_c40 : (Jvm.Cond.code ({ cls := "java/math/BigDecimal", name := "longDigitLength", desc := "(J)I" } : Jvm.MethodName) jdk_17_method_104_code (4 : Nat) (Option.some Jvm.ClassFile.FieldType.int)).before args0 about1 = true := code_word (m := ⟨9, 14⟩) (meth := k9m14) (c := k9c14) (by decide +kernel) rfl rfl rfl (by decide +kernel)
set_option maxRecDepth 65536 in
theorem w_c41 : (Jvm.Cond.code ({ cls := "java/lang/Long", name := "numberOfLeadingZeros", desc := "(J)I" } : Jvm.MethodName) jdk_35_method_48_code (3 : Nat) (Option.some Jvm.ClassFile.FieldType.int)).before args0 about1 = true := code_word (m := ⟨17, 1⟩) (meth := k17m1) (c := k17c1) (by decide +kernel) rfl rfl rfl (by decide +kernel)
set_option maxRecDepth 65536 in
theorem w_c42 : (Jvm.Cond.code ({ cls := "java/lang/Integer", name := "numberOfLeadingZeros", desc := "(I)I" } : Jvm.MethodName) jdk_33_method_47_code (2 : Nat) (Option.some Jvm.ClassFile.FieldType.int)).before args0 about1 = true := code_word (m := ⟨7, 2⟩) (meth := k7m2) (c := k7c2) (by decide +kernel) rfl rfl rfl (by decide +kernel)
set_option maxRecDepth 65536 in
theorem w_c43 : (Jvm.Cond.code ({ cls := "java/math/BigDecimal", name := "zeroValueOf", desc := "(I)Ljava/math/BigDecimal;" } : Jvm.MethodName) jdk_17_method_24_code (1 : Nat) (Option.some (Jvm.ClassFile.FieldType.object "java/math/BigDecimal"))).before args0 about1 = true := code_word (m := ⟨9, 3⟩) (meth := k9m3) (c := k9c3) (by decide +kernel) rfl rfl rfl (by decide +kernel)
def codes1 : List Jvm.Cond := [Jvm.Cond.code x code maxLocals ret, Jvm.Cond.code ({ cls := "java/lang/Integer", name := "valueOf", desc := "(I)Ljava/lang/Integer;" } : Jvm.MethodName) jdk_33_method_22_code (1 : Nat) (Option.some (Jvm.ClassFile.FieldType.object "java/lang/Integer")), Jvm.Cond.code ({ cls := "java/math/BigDecimal", name := "valueOf", desc := "(JI)Ljava/math/BigDecimal;" } : Jvm.MethodName) jdk_17_method_20_code (3 : Nat) (Option.some (Jvm.ClassFile.FieldType.object "java/math/BigDecimal")), Jvm.Cond.code ({ cls := "java/math/BigDecimal", name := "valueOf", desc := "(J)Ljava/math/BigDecimal;" } : Jvm.MethodName) jdk_17_method_21_code (2 : Nat) (Option.some (Jvm.ClassFile.FieldType.object "java/math/BigDecimal")), Jvm.Cond.code ({ cls := "java/math/BigDecimal", name := "<init>", desc := "(Ljava/math/BigInteger;JII)V" } : Jvm.MethodName) jdk_17_method_1_code (6 : Nat) (Option.none : Option Jvm.ClassFile.FieldType), Jvm.Cond.code ({ cls := "java/lang/Number", name := "<init>", desc := "()V" } : Jvm.MethodName) jdk_18_method_1_code (1 : Nat) (Option.none : Option Jvm.ClassFile.FieldType), Jvm.Cond.code ({ cls := "java/lang/Object", name := "<init>", desc := "()V" } : Jvm.MethodName) object_method_1_code (1 : Nat) (Option.none : Option Jvm.ClassFile.FieldType), Jvm.Cond.code ({ cls := "com/example/tipple/tipple/Arithmetic", name := "<init>", desc := "(Ljava/lang/Integer;)V" } : Jvm.MethodName) prog_7_method_1_code (2 : Nat) (Option.none : Option Jvm.ClassFile.FieldType), Jvm.Cond.code ({ cls := "java/util/Objects", name := "requireNonNull", desc := "(Ljava/lang/Object;)Ljava/lang/Object;" } : Jvm.MethodName) jdk_31_method_10_code (1 : Nat) (Option.some (Jvm.ClassFile.FieldType.object "java/lang/Object")), Jvm.Cond.code ({ cls := "com/example/tipple/tipple/Arithmetic$RunningSum", name := "<init>", desc := "(Lcom/example/tipple/tipple/Arithmetic;)V" } : Jvm.MethodName) prog_8_method_1_code (2 : Nat) (Option.none : Option Jvm.ClassFile.FieldType), Jvm.Cond.code ({ cls := "com/example/tipple/tipple/Arithmetic$RunningSum", name := "value", desc := "()Ljava/math/BigDecimal;" } : Jvm.MethodName) prog_8_method_3_code (1 : Nat) (Option.some (Jvm.ClassFile.FieldType.object "java/math/BigDecimal")), Jvm.Cond.code ({ cls := "java/math/BigDecimal", name := "equals", desc := "(Ljava/lang/Object;)Z" } : Jvm.MethodName) jdk_17_method_72_code (7 : Nat) (Option.some Jvm.ClassFile.FieldType.boolean), Jvm.Cond.code ({ cls := "com/example/tipple/tipple/Arithmetic$RunningSum", name := "add", desc := "(Ljava/math/BigDecimal;)V" } : Jvm.MethodName) prog_8_method_2_code (2 : Nat) (Option.none : Option Jvm.ClassFile.FieldType), Jvm.Cond.code ({ cls := "com/example/tipple/tipple/Arithmetic", name := "sum", desc := "(Ljava/math/BigDecimal;Ljava/math/BigDecimal;)Ljava/math/BigDecimal;" } : Jvm.MethodName) prog_7_method_2_code (3 : Nat) (Option.some (Jvm.ClassFile.FieldType.object "java/math/BigDecimal")), Jvm.Cond.code ({ cls := "java/math/BigDecimal", name := "add", desc := "(Ljava/math/BigDecimal;)Ljava/math/BigDecimal;" } : Jvm.MethodName) jdk_17_method_26_code (2 : Nat) (Option.some (Jvm.ClassFile.FieldType.object "java/math/BigDecimal")), Jvm.Cond.code ({ cls := "java/math/BigDecimal", name := "add", desc := "(JIJI)Ljava/math/BigDecimal;" } : Jvm.MethodName) jdk_17_method_134_code (12 : Nat) (Option.some (Jvm.ClassFile.FieldType.object "java/math/BigDecimal")), Jvm.Cond.code ({ cls := "java/math/BigDecimal", name := "checkScale", desc := "(JJ)I" } : Jvm.MethodName) jdk_17_method_113_code (5 : Nat) (Option.some Jvm.ClassFile.FieldType.int), Jvm.Cond.code ({ cls := "java/math/BigDecimal", name := "longMultiplyPowerTen", desc := "(JI)J" } : Jvm.MethodName) jdk_17_method_97_code (7 : Nat) (Option.some Jvm.ClassFile.FieldType.long), Jvm.Cond.code ({ cls := "java/lang/Math", name := "abs", desc := "(J)J" } : Jvm.MethodName) jdk_29_method_61_code (2 : Nat) (Option.some Jvm.ClassFile.FieldType.long), Jvm.Cond.code ({ cls := "java/math/BigDecimal", name := "add", desc := "(JJI)Ljava/math/BigDecimal;" } : Jvm.MethodName) jdk_17_method_133_code (7 : Nat) (Option.some (Jvm.ClassFile.FieldType.object "java/math/BigDecimal")), Jvm.Cond.code ({ cls := "java/math/BigDecimal", name := "add", desc := "(JJ)J" } : Jvm.MethodName) jdk_17_method_132_code (6 : Nat) (Option.some Jvm.ClassFile.FieldType.long), Jvm.Cond.code ({ cls := "com/example/tipple/tipple/Arithmetic", name := "carried", desc := "(Ljava/math/BigDecimal;)Ljava/math/BigDecimal;" } : Jvm.MethodName) prog_7_method_7_code (4 : Nat) (Option.some (Jvm.ClassFile.FieldType.object "java/math/BigDecimal")), Jvm.Cond.code ({ cls := "java/math/BigDecimal", name := "scale", desc := "()I" } : Jvm.MethodName) jdk_17_method_59_code (1 : Nat) (Option.some Jvm.ClassFile.FieldType.int), Jvm.Cond.code ({ cls := "java/lang/Integer", name := "intValue", desc := "()I" } : Jvm.MethodName) jdk_33_method_27_code (1 : Nat) (Option.some Jvm.ClassFile.FieldType.int), Jvm.Cond.code ({ cls := "java/lang/Math", name := "max", desc := "(II)I" } : Jvm.MethodName) jdk_29_method_65_code (2 : Nat) (Option.some Jvm.ClassFile.FieldType.int), Jvm.Cond.code ({ cls := "com/example/tipple/tipple/RunningSumValuePinLaw", name := "pow10", desc := "(I)J" } : Jvm.MethodName) method_2_code (2 : Nat) (Option.some Jvm.ClassFile.FieldType.long), Jvm.Cond.code ({ cls := "com/example/tipple/tipple/Decimals", name := "round", desc := "(Ljava/math/BigDecimal;I)Ljava/math/BigDecimal;" } : Jvm.MethodName) prog_24_method_3_code (2 : Nat) (Option.some (Jvm.ClassFile.FieldType.object "java/math/BigDecimal")), Jvm.Cond.code ({ cls := "java/math/BigDecimal", name := "setScale", desc := "(ILjava/math/RoundingMode;)Ljava/math/BigDecimal;" } : Jvm.MethodName) jdk_17_method_63_code (3 : Nat) (Option.some (Jvm.ClassFile.FieldType.object "java/math/BigDecimal")), Jvm.Cond.code ({ cls := "java/math/BigDecimal", name := "setScale", desc := "(II)Ljava/math/BigDecimal;" } : Jvm.MethodName) jdk_17_method_64_code (8 : Nat) (Option.some (Jvm.ClassFile.FieldType.object "java/math/BigDecimal")), Jvm.Cond.code ({ cls := "java/math/BigDecimal", name := "signum", desc := "()I" } : Jvm.MethodName) jdk_17_method_58_code (1 : Nat) (Option.some Jvm.ClassFile.FieldType.int), Jvm.Cond.code ({ cls := "java/lang/Long", name := "signum", desc := "(J)I" } : Jvm.MethodName) jdk_35_method_57_code (2 : Nat) (Option.some Jvm.ClassFile.FieldType.int), Jvm.Cond.code ({ cls := "java/math/BigDecimal", name := "checkScale", desc := "(J)I" } : Jvm.MethodName) jdk_17_method_106_code (5 : Nat) (Option.some Jvm.ClassFile.FieldType.int), Jvm.Cond.code ({ cls := "java/math/BigDecimal", name := "divideAndRound", desc := "(JJIII)Ljava/math/BigDecimal;" } : Jvm.MethodName) jdk_17_method_119_code (13 : Nat) (Option.some (Jvm.ClassFile.FieldType.object "java/math/BigDecimal")), Jvm.Cond.code ({ cls := "java/math/BigDecimal", name := "needIncrement", desc := "(JIIJJ)Z" } : Jvm.MethodName) jdk_17_method_122_code (9 : Nat) (Option.some Jvm.ClassFile.FieldType.boolean), Jvm.Cond.code ({ cls := "java/math/BigDecimal", name := "longCompareMagnitude", desc := "(JJ)I" } : Jvm.MethodName) jdk_17_method_108_code (4 : Nat) (Option.some Jvm.ClassFile.FieldType.int), Jvm.Cond.code ({ cls := "java/lang/Long", name := "compare", desc := "(JJ)I" } : Jvm.MethodName) jdk_35_method_42_code (4 : Nat) (Option.some Jvm.ClassFile.FieldType.int), Jvm.Cond.code ({ cls := "java/math/BigDecimal", name := "commonNeedIncrement", desc := "(IIIZ)Z" } : Jvm.MethodName) jdk_17_method_121_code (4 : Nat) (Option.some Jvm.ClassFile.FieldType.boolean), Jvm.Cond.code ({ cls := "java/math/BigDecimal", name := "compareTo", desc := "(Ljava/math/BigDecimal;)I" } : Jvm.MethodName) jdk_17_method_70_code (6 : Nat) (Option.some Jvm.ClassFile.FieldType.int), Jvm.Cond.code ({ cls := "java/math/BigDecimal", name := "compareMagnitude", desc := "(Ljava/math/BigDecimal;)I" } : Jvm.MethodName) jdk_17_method_71_code (13 : Nat) (Option.some Jvm.ClassFile.FieldType.int), Jvm.Cond.code ({ cls := "java/math/BigDecimal", name := "precision", desc := "()I" } : Jvm.MethodName) jdk_17_method_60_code (4 : Nat) (Option.some Jvm.ClassFile.FieldType.int), Jvm.Cond.code ({ cls := "java/math/BigDecimal", name := "longDigitLength", desc := "(J)I" } : Jvm.MethodName) jdk_17_method_104_code (4 : Nat) (Option.some Jvm.ClassFile.FieldType.int), Jvm.Cond.code ({ cls := "java/lang/Long", name := "numberOfLeadingZeros", desc := "(J)I" } : Jvm.MethodName) jdk_35_method_48_code (3 : Nat) (Option.some Jvm.ClassFile.FieldType.int), Jvm.Cond.code ({ cls := "java/lang/Integer", name := "numberOfLeadingZeros", desc := "(I)I" } : Jvm.MethodName) jdk_33_method_47_code (2 : Nat) (Option.some Jvm.ClassFile.FieldType.int), Jvm.Cond.code ({ cls := "java/math/BigDecimal", name := "zeroValueOf", desc := "(I)Ljava/math/BigDecimal;" } : Jvm.MethodName) jdk_17_method_24_code (1 : Nat) (Option.some (Jvm.ClassFile.FieldType.object "java/math/BigDecimal"))]
set_option maxRecDepth 65536 in
theorem codes_eq : words1.filter isCode = codes1 := rfl
theorem w_codes : ∀ c ∈ words1.filter isCode, c.before args0 about1 = true := by
  rw [codes_eq]
  intro c hc
  simp only [codes1, List.mem_cons, List.not_mem_nil, or_false] at hc
  rcases hc with rfl | rfl | rfl | rfl | rfl | rfl | rfl | rfl | rfl | rfl | rfl | rfl | rfl | rfl | rfl | rfl | rfl | rfl | rfl | rfl | rfl | rfl | rfl | rfl | rfl | rfl | rfl | rfl | rfl | rfl | rfl | rfl | rfl | rfl | rfl | rfl | rfl | rfl | rfl | rfl | rfl | rfl | rfl | rfl
  · exact w_c0
  · exact w_c1
  · exact w_c2
  · exact w_c3
  · exact w_c4
  · exact w_c5
  · exact w_c6
  · exact w_c7
  · exact w_c8
  · exact w_c9
  · exact w_c10
  · exact w_c11
  · exact w_c12
  · exact w_c13
  · exact w_c14
  · exact w_c15
  · exact w_c16
  · exact w_c17
  · exact w_c18
  · exact w_c19
  · exact w_c20
  · exact w_c21
  · exact w_c22
  · exact w_c23
  · exact w_c24
  · exact w_c25
  · exact w_c26
  · exact w_c27
  · exact w_c28
  · exact w_c29
  · exact w_c30
  · exact w_c31
  · exact w_c32
  · exact w_c33
  · exact w_c34
  · exact w_c35
  · exact w_c36
  · exact w_c37
  · exact w_c38
  · exact w_c39
  · exact w_c40
  · exact w_c41
  · exact w_c42
  · exact w_c43
set_option maxRecDepth 65536 in
theorem w_t1 : (words1.take 24).all (fun c => isCode c || c.before args0 about1) = true := by decide +kernel
set_option maxRecDepth 65536 in
theorem w_t2 : ((words1.drop 24).take 24).all (fun c => isCode c || c.before args0 about1) = true := by decide +kernel
set_option maxRecDepth 65536 in
theorem w_t3 : (((words1.drop 24).drop 24).take 24).all (fun c => isCode c || c.before args0 about1) = true := by decide +kernel
set_option maxRecDepth 65536 in
theorem w_t4 : ((((words1.drop 24).drop 24).drop 24).take 24).all (fun c => isCode c || c.before args0 about1) = true := by decide +kernel
set_option maxRecDepth 65536 in
theorem w_t5 : (((((words1.drop 24).drop 24).drop 24).drop 24).take 24).all (fun c => isCode c || c.before args0 about1) = true := by decide +kernel
set_option maxRecDepth 65536 in
theorem w_t6 : ((((((words1.drop 24).drop 24).drop 24).drop 24).drop 24).take 24).all (fun c => isCode c || c.before args0 about1) = true := by decide +kernel
set_option maxRecDepth 65536 in
theorem w_t7 : (((((((words1.drop 24).drop 24).drop 24).drop 24).drop 24).drop 24).take 24).all (fun c => isCode c || c.before args0 about1) = true := by decide +kernel
set_option maxRecDepth 65536 in
theorem w_t8 : ((((((((words1.drop 24).drop 24).drop 24).drop 24).drop 24).drop 24).drop 24).take 24).all (fun c => isCode c || c.before args0 about1) = true := by decide +kernel
set_option maxRecDepth 65536 in
theorem w_t9 : (((((((((words1.drop 24).drop 24).drop 24).drop 24).drop 24).drop 24).drop 24).drop 24).take 24).all (fun c => isCode c || c.before args0 about1) = true := by decide +kernel
set_option maxRecDepth 65536 in
theorem w_t10 : (((((((((words1.drop 24).drop 24).drop 24).drop 24).drop 24).drop 24).drop 24).drop 24).drop 24).all (fun c => isCode c || c.before args0 about1) = true := by decide +kernel
theorem w_tables : (allAtoms (Jvm.Cond.code x code maxLocals ret :: tables_1)).before args0 about1 = true := by
  rw [allAtoms_all]
  show words1.all (fun c => c.before args0 about1) = true
  refine all_split ?_ w_codes
  rw [← List.take_append_drop 24 words1, List.all_append, w_t1, ← List.take_append_drop 24 (words1.drop 24), List.all_append, w_t2, ← List.take_append_drop 24 ((words1.drop 24).drop 24), List.all_append, w_t3, ← List.take_append_drop 24 (((words1.drop 24).drop 24).drop 24), List.all_append, w_t4, ← List.take_append_drop 24 ((((words1.drop 24).drop 24).drop 24).drop 24), List.all_append, w_t5, ← List.take_append_drop 24 (((((words1.drop 24).drop 24).drop 24).drop 24).drop 24), List.all_append, w_t6, ← List.take_append_drop 24 ((((((words1.drop 24).drop 24).drop 24).drop 24).drop 24).drop 24), List.all_append, w_t7, ← List.take_append_drop 24 (((((((words1.drop 24).drop 24).drop 24).drop 24).drop 24).drop 24).drop 24), List.all_append, w_t8, ← List.take_append_drop 24 ((((((((words1.drop 24).drop 24).drop 24).drop 24).drop 24).drop 24).drop 24).drop 24), List.all_append, w_t9, w_t10]
  rfl
set_option maxRecDepth 65536 in
theorem w_rest : rest_1_c.before args0 about1 = true := by decide +kernel
set_option maxRecDepth 65536 in
theorem w_case : (Jvm.Cond.and given_1 narrow_1).before args0 about1 = true := by decide +kernel
theorem w_applies : (headSpec (Jvm.Cond.code x code maxLocals ret :: tables_1) room_1).applies x e0.platform about1 = true :=
  (Spec.applies_iff w_frames).mpr ⟨w_running, w_runnable, w_alone, w_named, w_hears, w_ripe, w_room, w_tables⟩
theorem atStart : AtStart classFile x code maxLocals ret World_1 tables_1 room_1 Calls_1 rest_1 Pre_1 launch0 p0 e0 about1 theMethod args0 below0 :=
  ⟨lists_1, trivial, launch0.admits_env _ _ _, launch0.least_env, fairChoices_fair.cas, fairChoices_fair.clock, w_frames, w_args, w_heap, w_applies, trivial, w_rest, w_case⟩
end start1
theorem witness_1 : WitnessClaimed_1 := ⟨start1.p0, start1.e0, start1.about1, start1.theMethod, start1.args0, start1.below0, start1.atStart⟩
end Jvm.Pilot.@@N@@
