import JvmDerived
import JvmDerived.Pilot.@@N@@Statement
import JvmDerived.Pilot.@@N@@Code
set_option linter.unusedVariables false
set_option linter.unusedSimpArgs false
namespace Jvm.RoadKit
open Sem ClassFile Op Lib Jvm.Stand Jvm.Free Jvm.LawKit
section New
variable {p : Program} {l : Launch} {e : Env} {R : Room} {s : State} {m : MethodId} {args : Array Value} {below : List Frame} {meth : Method} {c : Code} {T : State} {locs : List Loc} {cells slots : Nat}
theorem retI (X : Stand p l e R s m args below meth c T locs cells slots) (hx : p.tables.exec = Jvm.exec) {pc : Nat} {Ls : Array Slot} {z : Int32} {rest : List Value} (hret : meth.sig.returnType = some .int) (hd : decode c.code pc = .ok (.ireturn, 1)) {fs : List Frame}
    (hl : ∀ (f : JFrame) (acts : List Action), f.method = m → f.locked = none → f.entered = [] → (doReturn e (T.setTop f) acts (some (.int z))).1 = T.setFrames fs) : Steps p.tables e below (T.setTop (mkF m pc Ls (.int z :: rest))) (T.setFrames fs) := by
  have hm' : T.vm.method? m = some meth := X.method'
  have hn : narrow .int (.int z) = .int z := rfl
  show Steps p.tables e below (T.setTop { method := m, pc := pc, locals := Ls, stack := _ :: rest, locked := none }) _
  jvm_step X.here [X.here.top, hx, hd, hm', hret, hn]
  first | (intro acts; rw [hl _ acts rfl rfl rfl]) | rw [hl _ _ rfl rfl rfl]
  exact Steps.refl _
end New
end Jvm.RoadKit
namespace Jvm.Pilot.@@N@@
open Jvm Jvm.ClassFile Sem Op Lib Jvm.Free Jvm.Stand Jvm.LawKit Jvm.RoadKit Bundle Jvm.Pilot.@@N@@.Jvm.D
def own_ok (p1 p2 p3 p4 : Int32) : Int32 := (if p2 < p3 then (1 : Int32) else (if p2 < p4 then (if p1 < (32 : Int32) then (0 : Int32) else (if (126 : Int32) < p1 then (0 : Int32) else (1 : Int32))) else (1 : Int32)))
theorem d1_0 : decode method_3_code 0 = .ok (.iload_n 1, 1) := by decide +kernel
theorem d1_1 : decode method_3_code 1 = .ok (.iload_n 2, 1) := by decide +kernel
theorem d1_2 : decode method_3_code 2 = .ok (.if_icmp .lt 8, 3) := by decide +kernel
theorem d1_10 : decode method_3_code 10 = .ok (.iconst 1, 1) := by decide +kernel
theorem d1_11 : decode method_3_code 11 = .ok (.ireturn, 1) := by decide +kernel
theorem d1_5 : decode method_3_code 5 = .ok (.iload_n 1, 1) := by decide +kernel
theorem d1_6 : decode method_3_code 6 = .ok (.iload_n 3, 1) := by decide +kernel
theorem d1_7 : decode method_3_code 7 = .ok (.if_icmp .lt 5, 3) := by decide +kernel
theorem d1_12 : decode method_3_code 12 = .ok (.iload_n 0, 1) := by decide +kernel
theorem d1_13 : decode method_3_code 13 = .ok (.istore 4, 2) := by decide +kernel
theorem d1_15 : decode method_3_code 15 = .ok (.iload 4, 2) := by decide +kernel
theorem d1_17 : decode method_3_code 17 = .ok (.bipush 32, 2) := by decide +kernel
theorem d1_19 : decode method_3_code 19 = .ok (.if_icmp .lt 14, 3) := by decide +kernel
theorem d1_33 : decode method_3_code 33 = .ok (.iconst 0, 1) := by decide +kernel
theorem d1_34 : decode method_3_code 34 = .ok (.ireturn, 1) := by decide +kernel
theorem d1_22 : decode method_3_code 22 = .ok (.iload 4, 2) := by decide +kernel
theorem d1_24 : decode method_3_code 24 = .ok (.bipush 126, 2) := by decide +kernel
theorem d1_26 : decode method_3_code 26 = .ok (.if_icmp .gt 7, 3) := by decide +kernel
theorem d1_29 : decode method_3_code 29 = .ok (.iconst 1, 1) := by decide +kernel
theorem d1_30 : decode method_3_code 30 = .ok (.goto 4, 3) := by decide +kernel
theorem pn_com_example_tipple_tipple_IdsIsPrintableAsciiPinLaw : plainName "com/example/tipple/tipple/IdsIsPrintableAsciiPinLaw" = true := by first | (simp [plainName, overriddenIn]; done) | decide +kernel
theorem ef_rm1 (m : MethodId) (x0 : Int32) (x1 : Int32) (x2 : Int32) (x3 : Int32) : entryFrame m #[(.int x0), (.int x1), (.int x2), (.int x3)] 5 = mkF m 0 #[.val (.int x0), .val (.int x1), .val (.int x2), .val (.int x3), .unset] [] := by first | (simp [entryFrame, mkF, argsToLocals, Value.category]; done) | rfl
def Qrm1 (Z : State) (p1 : Int32) (p2 : Int32) (p3 : Int32) (p4 : Int32)  (h0 : Heap) (n0 : Nat) (v : Option Value) (h : Heap) (L : List Loc) : Prop := v = some (.int (own_ok p1 p2 p3 p4)) ∧ Fr n0 L ∧ h = h0
set_option maxRecDepth 65536 in
set_option maxHeartbeats 40000000 in
theorem rm1 (l : Launch) (Z : State) (a0 : Array Value) (hw : ∀ d ∈ tables_1, d.before a0 Z = true) (ws : List Jvm.Cond) (p1 : Int32) (p2 : Int32) (p3 : Int32) (p4 : Int32)  (h0 : Heap) (n0 : Nat) (Z0 : n0 ≤ h0.size)  :
    MetFree l (⟨"com/example/tipple/tipple/IdsIsPrintableAsciiPinLaw", "ok", "(CIII)Z"⟩ : MethodName) (head1 (Jvm.Cond.code (⟨"com/example/tipple/tipple/IdsIsPrintableAsciiPinLaw", "ok", "(CIII)Z"⟩ : MethodName) method_3_code 5 (some .boolean) :: ws) ({ frames := 0, cells := 0, slots := 0, locals := 0 } : Room)) (fun a U => a = #[(.int p1), (.int p2), (.int p3), (.int p4)] ∧ Z.Warmed39 U.vm ∧ U.heap = h0) (fun _ _ _ _ _ => True) (fun _ U o U' => ∃ v L, o = .returned v ∧ Qrm1 Z p1 p2 p3 p4  h0 n0 v U'.heap L ∧ FrameEnd U o U' L ({ frames := 0, cells := 0, slots := 0, locals := 0 } : Room).cells ({ frames := 0, cells := 0, slots := 0, locals := 0 } : Room).slots) := by
  refine MetFree.of_bodySF (plainFor_of_name pn_com_example_tipple_tipple_IdsIsPrintableAsciiPinLaw) hisR ?_
  intro p e s m args below meth c s₁ Bd hml0 hP hK
  obtain ⟨rfl, hZ, hh⟩ := hP
  have hx := Bd.exec
  have hby := Bd.bytes
  have hml : c.maxLocals = 5 := hml0
  have hown : s.vm.findClass "com/example/tipple/tipple/IdsIsPrintableAsciiPinLaw" = some m.cls := findClass_of_methodNamed Bd.named
  have hnm := (name_of_methodNamed Bd.named Bd.method).1
  have X0 : Stand p l e ({ frames := 0, cells := 0, slots := 0, locals := 0 } : Room) s m #[(.int p1), (.int p2), (.int p3), (.int p4)] below meth c s₁ [] 0 0 := Stand.of_body Bd
  have e0 : s₁.heap = h0 := by rw [← hh, Bd.state]; rfl
  have N0 := Fr.nil n0
  have pre0 : ∀ t, Steps p.tables e below (s₁.setTop (mkF m 0 #[.val (.int p1), .val (.int p2), .val (.int p3), .val (.int p4), .unset] [])) t → Steps p.tables e below (s₁.setTop (entryFrame m #[(.int p1), (.int p2), (.int p3), (.int p4)] 5)) t := fun t k => castTop (ef_rm1 m p1 p2 p3 p4) k
  obtain ⟨fs, hr, hrun, hended, hW, hsame⟩ := X0.leave (v := some (.int (if p2 < p3 then (1 : Int32) else (if p2 < p4 then (if p1 < (32 : Int32) then (0 : Int32) else (if (126 : Int32) < p1 then (0 : Int32) else (1 : Int32))) else (1 : Int32))))) (fun h => by rw [Bd.returns] at h; cases h)
  refine ⟨_, _, pre0 _ ?_, hrun, hended, _, _, rfl, ?_, ⟨_, rfl⟩, hW, hsame.mono (by decide) (by decide)⟩
  · show Steps p.tables e below (s₁.setTop (mkF m 0 #[.val (.int p1), .val (.int p2), .val (.int p3), .val (.int p4), .unset] [])) _
    refine XS.iloadN X0.here hx rfl (hb hby d1_0) rfl ?_
    show Steps p.tables e below (s₁.setTop (mkF m 1 #[.val (.int p1), .val (.int p2), .val (.int p3), .val (.int p4), .unset] [(.int p2)])) _
    refine XS.iloadN X0.here hx rfl (hb hby d1_1) rfl ?_
    by_cases ht0 : p2 < p3
    · rw [if_pos ht0] at hr
      show Steps p.tables e below (s₁.setTop (mkF m 2 #[.val (.int p1), .val (.int p2), .val (.int p3), .val (.int p4), .unset] [(.int p3), (.int p2)])) _
      refine XS.icmpYes X0.here hx rfl (pc0 := 2) (pc' := 10) rfl (hb hby d1_2) rfl (tlt (ht0 : p2 < p3)).1 (by decide) (by decide) ?_
      show Steps p.tables e below (s₁.setTop (mkF m 10 #[.val (.int p1), .val (.int p2), .val (.int p3), .val (.int p4), .unset] [])) _
      refine XS.iconst X0.here hx rfl (hb hby d1_10) ?_
      show Steps p.tables e below (s₁.setTop (mkF m 11 #[.val (.int p1), .val (.int p2), .val (.int p3), .val (.int p4), .unset] [(.int (1 : Int32))])) _
      exact retN X0 hx (t := .boolean) Bd.returns (by simp) (hb hby d1_11) hr
    · rw [if_neg ht0] at hr
      show Steps p.tables e below (s₁.setTop (mkF m 2 #[.val (.int p1), .val (.int p2), .val (.int p3), .val (.int p4), .unset] [(.int p3), (.int p2)])) _
      refine XS.icmpNo X0.here hx rfl (hb hby d1_2) rfl (flt (ht0 : ¬ (p2 < p3))).1 ?_
      show Steps p.tables e below (s₁.setTop (mkF m 5 #[.val (.int p1), .val (.int p2), .val (.int p3), .val (.int p4), .unset] [])) _
      refine XS.iloadN X0.here hx rfl (hb hby d1_5) rfl ?_
      show Steps p.tables e below (s₁.setTop (mkF m 6 #[.val (.int p1), .val (.int p2), .val (.int p3), .val (.int p4), .unset] [(.int p2)])) _
      refine XS.iloadN X0.here hx rfl (hb hby d1_6) rfl ?_
      by_cases ht1 : p2 < p4
      · rw [if_pos ht1] at hr
        show Steps p.tables e below (s₁.setTop (mkF m 7 #[.val (.int p1), .val (.int p2), .val (.int p3), .val (.int p4), .unset] [(.int p4), (.int p2)])) _
        refine XS.icmpYes X0.here hx rfl (pc0 := 7) (pc' := 12) rfl (hb hby d1_7) rfl (tlt (ht1 : p2 < p4)).1 (by decide) (by decide) ?_
        show Steps p.tables e below (s₁.setTop (mkF m 12 #[.val (.int p1), .val (.int p2), .val (.int p3), .val (.int p4), .unset] [])) _
        refine XS.iloadN X0.here hx rfl (hb hby d1_12) rfl ?_
        show Steps p.tables e below (s₁.setTop (mkF m 13 #[.val (.int p1), .val (.int p2), .val (.int p3), .val (.int p4), .unset] [(.int p1)])) _
        refine XS.istore X0.here hx rfl (hb hby d1_13) rfl (l' := #[.val (.int p1), .val (.int p2), .val (.int p3), .val (.int p4), .val (.int p1)]) rfl ?_
        show Steps p.tables e below (s₁.setTop (mkF m 15 #[.val (.int p1), .val (.int p2), .val (.int p3), .val (.int p4), .val (.int p1)] [])) _
        refine XS.iload X0.here hx rfl (hb hby d1_15) rfl ?_
        show Steps p.tables e below (s₁.setTop (mkF m 17 #[.val (.int p1), .val (.int p2), .val (.int p3), .val (.int p4), .val (.int p1)] [(.int p1)])) _
        refine XS.bipush X0.here hx rfl (hb hby d1_17) ?_
        by_cases ht2 : p1 < (32 : Int32)
        · rw [if_pos ht2] at hr
          show Steps p.tables e below (s₁.setTop (mkF m 19 #[.val (.int p1), .val (.int p2), .val (.int p3), .val (.int p4), .val (.int p1)] [(.int (32 : Int32)), (.int p1)])) _
          refine XS.icmpYes X0.here hx rfl (pc0 := 19) (pc' := 33) rfl (hb hby d1_19) rfl (tlt (ht2 : p1 < (32 : Int32))).1 (by decide) (by decide) ?_
          show Steps p.tables e below (s₁.setTop (mkF m 33 #[.val (.int p1), .val (.int p2), .val (.int p3), .val (.int p4), .val (.int p1)] [])) _
          refine XS.iconst X0.here hx rfl (hb hby d1_33) ?_
          show Steps p.tables e below (s₁.setTop (mkF m 34 #[.val (.int p1), .val (.int p2), .val (.int p3), .val (.int p4), .val (.int p1)] [(.int (0 : Int32))])) _
          exact retN X0 hx (t := .boolean) Bd.returns (by simp) (hb hby d1_34) hr
        · rw [if_neg ht2] at hr
          show Steps p.tables e below (s₁.setTop (mkF m 19 #[.val (.int p1), .val (.int p2), .val (.int p3), .val (.int p4), .val (.int p1)] [(.int (32 : Int32)), (.int p1)])) _
          refine XS.icmpNo X0.here hx rfl (hb hby d1_19) rfl (flt (ht2 : ¬ (p1 < (32 : Int32)))).1 ?_
          show Steps p.tables e below (s₁.setTop (mkF m 22 #[.val (.int p1), .val (.int p2), .val (.int p3), .val (.int p4), .val (.int p1)] [])) _
          refine XS.iload X0.here hx rfl (hb hby d1_22) rfl ?_
          show Steps p.tables e below (s₁.setTop (mkF m 24 #[.val (.int p1), .val (.int p2), .val (.int p3), .val (.int p4), .val (.int p1)] [(.int p1)])) _
          refine XS.bipush X0.here hx rfl (hb hby d1_24) ?_
          by_cases ht3 : (126 : Int32) < p1
          · rw [if_pos ht3] at hr
            show Steps p.tables e below (s₁.setTop (mkF m 26 #[.val (.int p1), .val (.int p2), .val (.int p3), .val (.int p4), .val (.int p1)] [(.int (126 : Int32)), (.int p1)])) _
            refine XS.icmpYes X0.here hx rfl (pc0 := 26) (pc' := 33) rfl (hb hby d1_26) rfl (tlt (ht3 : (126 : Int32) < p1)).2.2.1 (by decide) (by decide) ?_
            show Steps p.tables e below (s₁.setTop (mkF m 33 #[.val (.int p1), .val (.int p2), .val (.int p3), .val (.int p4), .val (.int p1)] [])) _
            refine XS.iconst X0.here hx rfl (hb hby d1_33) ?_
            show Steps p.tables e below (s₁.setTop (mkF m 34 #[.val (.int p1), .val (.int p2), .val (.int p3), .val (.int p4), .val (.int p1)] [(.int (0 : Int32))])) _
            exact retN X0 hx (t := .boolean) Bd.returns (by simp) (hb hby d1_34) hr
          · rw [if_neg ht3] at hr
            show Steps p.tables e below (s₁.setTop (mkF m 26 #[.val (.int p1), .val (.int p2), .val (.int p3), .val (.int p4), .val (.int p1)] [(.int (126 : Int32)), (.int p1)])) _
            refine XS.icmpNo X0.here hx rfl (hb hby d1_26) rfl (flt (ht3 : ¬ ((126 : Int32) < p1))).2.2.1 ?_
            show Steps p.tables e below (s₁.setTop (mkF m 29 #[.val (.int p1), .val (.int p2), .val (.int p3), .val (.int p4), .val (.int p1)] [])) _
            refine XS.iconst X0.here hx rfl (hb hby d1_29) ?_
            show Steps p.tables e below (s₁.setTop (mkF m 30 #[.val (.int p1), .val (.int p2), .val (.int p3), .val (.int p4), .val (.int p1)] [(.int (1 : Int32))])) _
            refine XS.goto X0.here hx rfl (pc0 := 30) (pc' := 34) rfl (hb hby d1_30) (by decide) (by decide) ?_
            show Steps p.tables e below (s₁.setTop (mkF m 34 #[.val (.int p1), .val (.int p2), .val (.int p3), .val (.int p4), .val (.int p1)] [(.int (1 : Int32))])) _
            exact retN X0 hx (t := .boolean) Bd.returns (by simp) (hb hby d1_34) hr
      · rw [if_neg ht1] at hr
        show Steps p.tables e below (s₁.setTop (mkF m 7 #[.val (.int p1), .val (.int p2), .val (.int p3), .val (.int p4), .unset] [(.int p4), (.int p2)])) _
        refine XS.icmpNo X0.here hx rfl (hb hby d1_7) rfl (flt (ht1 : ¬ (p2 < p4))).1 ?_
        show Steps p.tables e below (s₁.setTop (mkF m 10 #[.val (.int p1), .val (.int p2), .val (.int p3), .val (.int p4), .unset] [])) _
        refine XS.iconst X0.here hx rfl (hb hby d1_10) ?_
        show Steps p.tables e below (s₁.setTop (mkF m 11 #[.val (.int p1), .val (.int p2), .val (.int p3), .val (.int p4), .unset] [(.int (1 : Int32))])) _
        exact retN X0 hx (t := .boolean) Bd.returns (by simp) (hb hby d1_11) hr
  · show Qrm1 Z p1 p2 p3 p4  h0 n0 _ s₁.heap _
    rw [e0]
    exact ⟨rfl, N0, rfl⟩
def own_turn (acc x : Int32) : Int32 := (if x < (32 : Int32) then (acc &&& (0 : Int32)) else (if (126 : Int32) < x then (acc &&& (0 : Int32)) else (acc &&& (1 : Int32))))
theorem d2_5 : decode prog_29_method_3_code 5 = .ok (.iload 4, 2) := by decide +kernel
theorem d2_7 : decode prog_29_method_3_code 7 = .ok (.iload_n 2, 1) := by decide +kernel
theorem d2_8 : decode prog_29_method_3_code 8 = .ok (.if_icmp .ge 35, 3) := by decide +kernel
theorem d2_11 : decode prog_29_method_3_code 11 = .ok (.iload_n 3, 1) := by decide +kernel
theorem d2_12 : decode prog_29_method_3_code 12 = .ok (.aload_n 0, 1) := by decide +kernel
theorem d2_13 : decode prog_29_method_3_code 13 = .ok (.iload 4, 2) := by decide +kernel
theorem d2_15 : decode prog_29_method_3_code 15 = .ok (.caload, 1) := by decide +kernel
theorem d2_16 : decode prog_29_method_3_code 16 = .ok (.bipush 32, 2) := by decide +kernel
theorem d2_18 : decode prog_29_method_3_code 18 = .ok (.if_icmp .lt 16, 3) := by decide +kernel
theorem d2_34 : decode prog_29_method_3_code 34 = .ok (.iconst 0, 1) := by decide +kernel
theorem d2_35 : decode prog_29_method_3_code 35 = .ok (.iand, 1) := by decide +kernel
theorem d2_36 : decode prog_29_method_3_code 36 = .ok (.istore_n 3, 1) := by decide +kernel
theorem d2_37 : decode prog_29_method_3_code 37 = .ok (.iinc 4 1, 3) := by decide +kernel
theorem d2_40 : decode prog_29_method_3_code 40 = .ok (.goto (-35), 3) := by decide +kernel
theorem d2_21 : decode prog_29_method_3_code 21 = .ok (.aload_n 0, 1) := by decide +kernel
theorem d2_22 : decode prog_29_method_3_code 22 = .ok (.iload 4, 2) := by decide +kernel
theorem d2_24 : decode prog_29_method_3_code 24 = .ok (.caload, 1) := by decide +kernel
theorem d2_25 : decode prog_29_method_3_code 25 = .ok (.bipush 126, 2) := by decide +kernel
theorem d2_27 : decode prog_29_method_3_code 27 = .ok (.if_icmp .gt 7, 3) := by decide +kernel
theorem d2_30 : decode prog_29_method_3_code 30 = .ok (.iconst 1, 1) := by decide +kernel
theorem d2_31 : decode prog_29_method_3_code 31 = .ok (.goto 4, 3) := by decide +kernel
set_option maxRecDepth 65536 in
set_option maxHeartbeats 40000000 in
theorem own_tn {p : Program} {l : Launch} {e : Env} {R : Room} {s : State} {m : MethodId} {args : Array Value} {below : List Frame} {meth : Method} {c : Code} {T0 : State} {locs : List Loc} {cells slots : Nat} {Z : State} {a0 : Array Value} {h0 : Heap} (b : Addr) (i1 i2 acc i4 x : Int32) (cl : Cell)
    (X0 : Stand p l e R s m args below meth c T0 locs cells slots) (hx : p.tables.exec = Jvm.exec) (hZ : Z.Warmed39 s.vm) (hw : ∀ d ∈ tables_1, d.before a0 Z = true) (hby : c.code = prog_29_method_3_code) (hml : c.maxLocals = 5) (hown : s.vm.findClass "com/example/tipple/tipple/Ids" = some m.cls) (e0 : T0.heap = h0) (Ar : Arr Z h0 b cl .char) (hc : i4 < i2) (hin : ¬ (i4 < 0 ∨ cl.slots.size ≤ (i4).toNatClampNeg)) (hat : cl.slots[(i4).toNatClampNeg]? = some (.int x)) :
    ∀ target, Steps p.tables e below (T0.setTop (mkF m 5 #[.val (.ref b), .val (.int i1), .val (.int i2), .val (.int (if x < (32 : Int32) then (acc &&& (0 : Int32)) else (if (126 : Int32) < x then (acc &&& (0 : Int32)) else (acc &&& (1 : Int32))))), .val (.int (i4 + (1 : Int32)))] [])) target → Steps p.tables e below (T0.setTop (mkF m 5 #[.val (.ref b), .val (.int i1), .val (.int i2), .val (.int acc), .val (.int i4)] [])) target := by
  intro target kt
  show Steps p.tables e below (T0.setTop (mkF m 5 #[.val (.ref b), .val (.int i1), .val (.int i2), .val (.int acc), .val (.int i4)] [])) _
  refine XS.iload X0.here hx rfl (hb hby d2_5) rfl ?_
  show Steps p.tables e below (T0.setTop (mkF m 7 #[.val (.ref b), .val (.int i1), .val (.int i2), .val (.int acc), .val (.int i4)] [(.int i4)])) _
  refine XS.iloadN X0.here hx rfl (hb hby d2_7) rfl ?_
  show Steps p.tables e below (T0.setTop (mkF m 8 #[.val (.ref b), .val (.int i1), .val (.int i2), .val (.int acc), .val (.int i4)] [(.int i2), (.int i4)])) _
  refine XS.icmpNo X0.here hx rfl (hb hby d2_8) rfl (tlt (hc : i4 < i2)).2.1 ?_
  show Steps p.tables e below (T0.setTop (mkF m 11 #[.val (.ref b), .val (.int i1), .val (.int i2), .val (.int acc), .val (.int i4)] [])) _
  refine XS.iloadN X0.here hx rfl (hb hby d2_11) rfl ?_
  show Steps p.tables e below (T0.setTop (mkF m 12 #[.val (.ref b), .val (.int i1), .val (.int i2), .val (.int acc), .val (.int i4)] [(.int acc)])) _
  refine XS.aloadN X0.here hx rfl (hb hby d2_12) rfl rfl ?_
  show Steps p.tables e below (T0.setTop (mkF m 13 #[.val (.ref b), .val (.int i1), .val (.int i2), .val (.int acc), .val (.int i4)] [(.ref b), (.int acc)])) _
  refine XS.iload X0.here hx rfl (hb hby d2_13) rfl ?_
  show Steps p.tables e below (T0.setTop (mkF m 15 #[.val (.ref b), .val (.int i1), .val (.int i2), .val (.int acc), .val (.int i4)] [(.int i4), (.ref b), (.int acc)])) _
  refine X0.caload hx (j := i4) (v := (.int x)) (by rw [e0]; exact Ar.1) (State.isArrayOf_alike hZ.alike Ar.2.1) Ar.2.2 hin hat (g := (mkF m 15 #[.val (.ref b), .val (.int i1), .val (.int i2), .val (.int acc), .val (.int i4)] [(.int i4), (.ref b), (.int acc)])) rfl rfl (hb hby d2_15) _ ?_
  show Steps p.tables e below (T0.setTop (mkF m 16 #[.val (.ref b), .val (.int i1), .val (.int i2), .val (.int acc), .val (.int i4)] [(.int x), (.int acc)])) _
  refine XS.bipush X0.here hx rfl (hb hby d2_16) ?_
  by_cases ht0 : x < (32 : Int32)
  · rw [if_pos ht0] at kt
    show Steps p.tables e below (T0.setTop (mkF m 18 #[.val (.ref b), .val (.int i1), .val (.int i2), .val (.int acc), .val (.int i4)] [(.int (32 : Int32)), (.int x), (.int acc)])) _
    refine XS.icmpYes X0.here hx rfl (pc0 := 18) (pc' := 34) rfl (hb hby d2_18) rfl (tlt (ht0 : x < (32 : Int32))).1 (by decide) (by decide) ?_
    show Steps p.tables e below (T0.setTop (mkF m 34 #[.val (.ref b), .val (.int i1), .val (.int i2), .val (.int acc), .val (.int i4)] [(.int acc)])) _
    refine XS.iconst X0.here hx rfl (hb hby d2_34) ?_
    show Steps p.tables e below (T0.setTop (mkF m 35 #[.val (.ref b), .val (.int i1), .val (.int i2), .val (.int acc), .val (.int i4)] [(.int (0 : Int32)), (.int acc)])) _
    refine XS.iand X0.here hx rfl (hb hby d2_35) rfl ?_
    show Steps p.tables e below (T0.setTop (mkF m 36 #[.val (.ref b), .val (.int i1), .val (.int i2), .val (.int acc), .val (.int i4)] [(.int (acc &&& (0 : Int32)))])) _
    refine XS.istoreN X0.here hx rfl (hb hby d2_36) rfl (l' := #[.val (.ref b), .val (.int i1), .val (.int i2), .val (.int (acc &&& (0 : Int32))), .val (.int i4)]) rfl ?_
    show Steps p.tables e below (T0.setTop (mkF m 37 #[.val (.ref b), .val (.int i1), .val (.int i2), .val (.int (acc &&& (0 : Int32))), .val (.int i4)] [])) _
    refine XS.iinc X0.here hx rfl (hb hby d2_37) rfl (l' := #[.val (.ref b), .val (.int i1), .val (.int i2), .val (.int (acc &&& (0 : Int32))), .val (.int (i4 + (1 : Int32)))]) rfl ?_
    show Steps p.tables e below (T0.setTop (mkF m 40 #[.val (.ref b), .val (.int i1), .val (.int i2), .val (.int (acc &&& (0 : Int32))), .val (.int (i4 + (1 : Int32)))] [])) _
    refine XS.goto X0.here hx rfl (pc0 := 40) (pc' := 5) rfl (hb hby d2_40) (by decide) (by decide) ?_
    exact kt
  · rw [if_neg ht0] at kt
    show Steps p.tables e below (T0.setTop (mkF m 18 #[.val (.ref b), .val (.int i1), .val (.int i2), .val (.int acc), .val (.int i4)] [(.int (32 : Int32)), (.int x), (.int acc)])) _
    refine XS.icmpNo X0.here hx rfl (hb hby d2_18) rfl (flt (ht0 : ¬ (x < (32 : Int32)))).1 ?_
    show Steps p.tables e below (T0.setTop (mkF m 21 #[.val (.ref b), .val (.int i1), .val (.int i2), .val (.int acc), .val (.int i4)] [(.int acc)])) _
    refine XS.aloadN X0.here hx rfl (hb hby d2_21) rfl rfl ?_
    show Steps p.tables e below (T0.setTop (mkF m 22 #[.val (.ref b), .val (.int i1), .val (.int i2), .val (.int acc), .val (.int i4)] [(.ref b), (.int acc)])) _
    refine XS.iload X0.here hx rfl (hb hby d2_22) rfl ?_
    show Steps p.tables e below (T0.setTop (mkF m 24 #[.val (.ref b), .val (.int i1), .val (.int i2), .val (.int acc), .val (.int i4)] [(.int i4), (.ref b), (.int acc)])) _
    refine X0.caload hx (j := i4) (v := (.int x)) (by rw [e0]; exact Ar.1) (State.isArrayOf_alike hZ.alike Ar.2.1) Ar.2.2 hin hat (g := (mkF m 24 #[.val (.ref b), .val (.int i1), .val (.int i2), .val (.int acc), .val (.int i4)] [(.int i4), (.ref b), (.int acc)])) rfl rfl (hb hby d2_24) _ ?_
    show Steps p.tables e below (T0.setTop (mkF m 25 #[.val (.ref b), .val (.int i1), .val (.int i2), .val (.int acc), .val (.int i4)] [(.int x), (.int acc)])) _
    refine XS.bipush X0.here hx rfl (hb hby d2_25) ?_
    by_cases ht1 : (126 : Int32) < x
    · rw [if_pos ht1] at kt
      show Steps p.tables e below (T0.setTop (mkF m 27 #[.val (.ref b), .val (.int i1), .val (.int i2), .val (.int acc), .val (.int i4)] [(.int (126 : Int32)), (.int x), (.int acc)])) _
      refine XS.icmpYes X0.here hx rfl (pc0 := 27) (pc' := 34) rfl (hb hby d2_27) rfl (tlt (ht1 : (126 : Int32) < x)).2.2.1 (by decide) (by decide) ?_
      show Steps p.tables e below (T0.setTop (mkF m 34 #[.val (.ref b), .val (.int i1), .val (.int i2), .val (.int acc), .val (.int i4)] [(.int acc)])) _
      refine XS.iconst X0.here hx rfl (hb hby d2_34) ?_
      show Steps p.tables e below (T0.setTop (mkF m 35 #[.val (.ref b), .val (.int i1), .val (.int i2), .val (.int acc), .val (.int i4)] [(.int (0 : Int32)), (.int acc)])) _
      refine XS.iand X0.here hx rfl (hb hby d2_35) rfl ?_
      show Steps p.tables e below (T0.setTop (mkF m 36 #[.val (.ref b), .val (.int i1), .val (.int i2), .val (.int acc), .val (.int i4)] [(.int (acc &&& (0 : Int32)))])) _
      refine XS.istoreN X0.here hx rfl (hb hby d2_36) rfl (l' := #[.val (.ref b), .val (.int i1), .val (.int i2), .val (.int (acc &&& (0 : Int32))), .val (.int i4)]) rfl ?_
      show Steps p.tables e below (T0.setTop (mkF m 37 #[.val (.ref b), .val (.int i1), .val (.int i2), .val (.int (acc &&& (0 : Int32))), .val (.int i4)] [])) _
      refine XS.iinc X0.here hx rfl (hb hby d2_37) rfl (l' := #[.val (.ref b), .val (.int i1), .val (.int i2), .val (.int (acc &&& (0 : Int32))), .val (.int (i4 + (1 : Int32)))]) rfl ?_
      show Steps p.tables e below (T0.setTop (mkF m 40 #[.val (.ref b), .val (.int i1), .val (.int i2), .val (.int (acc &&& (0 : Int32))), .val (.int (i4 + (1 : Int32)))] [])) _
      refine XS.goto X0.here hx rfl (pc0 := 40) (pc' := 5) rfl (hb hby d2_40) (by decide) (by decide) ?_
      exact kt
    · rw [if_neg ht1] at kt
      show Steps p.tables e below (T0.setTop (mkF m 27 #[.val (.ref b), .val (.int i1), .val (.int i2), .val (.int acc), .val (.int i4)] [(.int (126 : Int32)), (.int x), (.int acc)])) _
      refine XS.icmpNo X0.here hx rfl (hb hby d2_27) rfl (flt (ht1 : ¬ ((126 : Int32) < x))).2.2.1 ?_
      show Steps p.tables e below (T0.setTop (mkF m 30 #[.val (.ref b), .val (.int i1), .val (.int i2), .val (.int acc), .val (.int i4)] [(.int acc)])) _
      refine XS.iconst X0.here hx rfl (hb hby d2_30) ?_
      show Steps p.tables e below (T0.setTop (mkF m 31 #[.val (.ref b), .val (.int i1), .val (.int i2), .val (.int acc), .val (.int i4)] [(.int (1 : Int32)), (.int acc)])) _
      refine XS.goto X0.here hx rfl (pc0 := 31) (pc' := 35) rfl (hb hby d2_31) (by decide) (by decide) ?_
      show Steps p.tables e below (T0.setTop (mkF m 35 #[.val (.ref b), .val (.int i1), .val (.int i2), .val (.int acc), .val (.int i4)] [(.int (1 : Int32)), (.int acc)])) _
      refine XS.iand X0.here hx rfl (hb hby d2_35) rfl ?_
      show Steps p.tables e below (T0.setTop (mkF m 36 #[.val (.ref b), .val (.int i1), .val (.int i2), .val (.int acc), .val (.int i4)] [(.int (acc &&& (1 : Int32)))])) _
      refine XS.istoreN X0.here hx rfl (hb hby d2_36) rfl (l' := #[.val (.ref b), .val (.int i1), .val (.int i2), .val (.int (acc &&& (1 : Int32))), .val (.int i4)]) rfl ?_
      show Steps p.tables e below (T0.setTop (mkF m 37 #[.val (.ref b), .val (.int i1), .val (.int i2), .val (.int (acc &&& (1 : Int32))), .val (.int i4)] [])) _
      refine XS.iinc X0.here hx rfl (hb hby d2_37) rfl (l' := #[.val (.ref b), .val (.int i1), .val (.int i2), .val (.int (acc &&& (1 : Int32))), .val (.int (i4 + (1 : Int32)))]) rfl ?_
      show Steps p.tables e below (T0.setTop (mkF m 40 #[.val (.ref b), .val (.int i1), .val (.int i2), .val (.int (acc &&& (1 : Int32))), .val (.int (i4 + (1 : Int32)))] [])) _
      refine XS.goto X0.here hx rfl (pc0 := 40) (pc' := 5) rfl (hb hby d2_40) (by decide) (by decide) ?_
      exact kt
set_option maxRecDepth 65536 in
set_option maxHeartbeats 40000000 in
theorem own_lv {p : Program} {l : Launch} {e : Env} {R : Room} {s : State} {m : MethodId} {args : Array Value} {below : List Frame} {meth : Method} {c : Code} {T0 : State} {locs : List Loc} {cells slots : Nat} {Z : State} {a0 : Array Value} {h0 : Heap} (b : Addr) (i1 i2 acc i4 : Int32)
    (X0 : Stand p l e R s m args below meth c T0 locs cells slots) (hx : p.tables.exec = Jvm.exec) (hZ : Z.Warmed39 s.vm) (hw : ∀ d ∈ tables_1, d.before a0 Z = true) (hby : c.code = prog_29_method_3_code) (hml : c.maxLocals = 5) (hown : s.vm.findClass "com/example/tipple/tipple/Ids" = some m.cls) (e0 : T0.heap = h0) (hc : ¬ (i4 < i2)) :
    ∀ target, Steps p.tables e below (T0.setTop (mkF m 43 #[.val (.ref b), .val (.int i1), .val (.int i2), .val (.int acc), .val (.int i4)] [])) target → Steps p.tables e below (T0.setTop (mkF m 5 #[.val (.ref b), .val (.int i1), .val (.int i2), .val (.int acc), .val (.int i4)] [])) target := by
  intro target kt
  show Steps p.tables e below (T0.setTop (mkF m 5 #[.val (.ref b), .val (.int i1), .val (.int i2), .val (.int acc), .val (.int i4)] [])) _
  refine XS.iload X0.here hx rfl (hb hby d2_5) rfl ?_
  show Steps p.tables e below (T0.setTop (mkF m 7 #[.val (.ref b), .val (.int i1), .val (.int i2), .val (.int acc), .val (.int i4)] [(.int i4)])) _
  refine XS.iloadN X0.here hx rfl (hb hby d2_7) rfl ?_
  show Steps p.tables e below (T0.setTop (mkF m 8 #[.val (.ref b), .val (.int i1), .val (.int i2), .val (.int acc), .val (.int i4)] [(.int i2), (.int i4)])) _
  refine XS.icmpYes X0.here hx rfl (pc0 := 8) (pc' := 43) rfl (hb hby d2_8) rfl (flt (hc : ¬ (i4 < i2))).2.1 (by decide) (by decide) ?_
  exact kt
def own_fold (f : Nat → Int32) : Int32 → Nat → Nat → Int32
  | acc, _, 0 => acc
  | acc, i, k + 1 => own_fold f (own_turn acc (f i)) (i + 1) k
theorem own_lt {i n : Nat} (h : i < n) (hn : n ≤ 4) : Int32.ofNat i < Int32.ofNat n := by
  rw [Int32.lt_iff_toInt_lt, Int32.toInt_ofNat_of_lt (by omega), Int32.toInt_ofNat_of_lt (by omega)]
  omega
theorem own_nlt {i n : Nat} (h : n ≤ i) (hi : i ≤ 4) : ¬ Int32.ofNat i < Int32.ofNat n := by
  rw [Int32.lt_iff_toInt_lt, Int32.toInt_ofNat_of_lt (by omega), Int32.toInt_ofNat_of_lt (by omega)]
  omega
theorem own_n32 {n : Nat} (hn : n ≤ 4) : (Int32.ofNat n).toNatClampNeg = n := by
  show (Int32.ofNat n).toInt.toNat = n
  rw [Int32.toInt_ofNat_of_lt (by omega)]
  omega
theorem own_nn {n : Nat} (hn : n ≤ 4) : ¬ Int32.ofNat n < 0 := by
  rw [Int32.lt_iff_toInt_lt, Int32.toInt_ofNat_of_lt (by omega)]
  have : (0 : Int32).toInt = 0 := by decide
  omega
theorem own_one (i : Nat) : Int32.ofNat i + (1 : Int32) = Int32.ofNat (i + 1) := (Int32.ofNat_add i 1).symm
theorem own_loop {p : Program} {l : Launch} {e : Env} {R : Room} {s : State} {m : MethodId} {args : Array Value} {below : List Frame} {meth : Method} {c : Code} {T0 : State} {locs : List Loc} {cells slots : Nat} {Z : State} {a0 : Array Value} {h0 : Heap} (b : Addr) (i1 : Int32) (f : Nat → Int32) (n : Nat) (hn : n ≤ 4) (cl : Cell)
    (X0 : Stand p l e R s m args below meth c T0 locs cells slots) (hx : p.tables.exec = Jvm.exec) (hZ : Z.Warmed39 s.vm) (hw : ∀ d ∈ tables_1, d.before a0 Z = true) (hby : c.code = prog_29_method_3_code) (hml : c.maxLocals = 5) (hown : s.vm.findClass "com/example/tipple/tipple/Ids" = some m.cls) (e0 : T0.heap = h0) (Ar : Arr Z h0 b cl .char) (S : cl.slots.size = 4) (hat : ∀ j, j < 4 → cl.slots[j]? = some (.int (f j))) :
    ∀ (k i : Nat) (acc : Int32), (i + k = n ∨ (k = 0 ∧ n ≤ i)) → i ≤ 4 → ∀ target, Steps p.tables e below (T0.setTop (mkF m 43 #[.val (.ref b), .val (.int i1), .val (.int (Int32.ofNat n)), .val (.int (own_fold f acc i k)), .val (.int (Int32.ofNat (i + k)))] [])) target → Steps p.tables e below (T0.setTop (mkF m 5 #[.val (.ref b), .val (.int i1), .val (.int (Int32.ofNat n)), .val (.int acc), .val (.int (Int32.ofNat i))] [])) target := by
  intro k
  induction k with
  | zero =>
    intro i acc hi hi4 target kt
    exact own_lv b i1 (Int32.ofNat n) acc (Int32.ofNat i) X0 hx hZ hw hby hml hown e0 (own_nlt (by omega) hi4) target kt
  | succ k ih =>
    intro i acc hi hi4 target kt
    have hin : ¬ (Int32.ofNat i < 0 ∨ cl.slots.size ≤ (Int32.ofNat i).toNatClampNeg) := by
      rw [S, own_n32 hi4]
      exact fun q => q.elim (own_nn hi4) (fun q => by omega)
    have hai : cl.slots[(Int32.ofNat i).toNatClampNeg]? = some (.int (f i)) := by
      rw [own_n32 hi4]
      exact hat i (by omega)
    refine own_tn b i1 (Int32.ofNat n) acc (Int32.ofNat i) (f i) cl X0 hx hZ hw hby hml hown e0 Ar (own_lt (by omega) hn) hin hai target ?_
    rw [own_one]
    refine ih (i + 1) (own_turn acc (f i)) (by omega) (by omega) target ?_
    rw [show i + 1 + k = i + (k + 1) by omega]
    exact kt
def own_f (x0 x1 x2 x3 : Int32) : Nat → Int32
  | 0 => x0
  | 1 => x1
  | 2 => x2
  | _ => x3
theorem own_at (x0 x1 x2 x3 : Int32) {j : Nat} (hj : j < 4) : ([(.int x0), (.int x1), (.int x2), (.int x3)] : List Value).getD j (.int (0 : Int32)) = .int (own_f x0 x1 x2 x3 j) := by
  match j, hj with
  | 0, _ => rfl
  | 1, _ => rfl
  | 2, _ => rfl
  | 3, _ => rfl
def own_b (b : Bool) : Int32 := if b then 1 else 0
def own_p (x : Int32) : Bool := !(decide (x < (32 : Int32))) && !(decide ((126 : Int32) < x))
theorem own_turn_eq (acc x : Int32) : own_turn acc x = acc &&& own_b (own_p x) := by
  unfold own_turn own_b own_p
  by_cases h1 : x < (32 : Int32)
  · simp [h1]
  · by_cases h2 : (126 : Int32) < x <;> simp [h1, h2]
theorem own_ok_eq (x i s e : Int32) : own_ok x i s e = if i < s then 1 else if i < e then own_b (own_p x) else 1 := by
  unfold own_ok own_b own_p
  by_cases h1 : x < (32 : Int32)
  · simp [h1]
  · by_cases h2 : (126 : Int32) < x <;> simp [h1, h2]
def own_e (o0 o1 o2 o3 : Int32) : Int32 := if o0 = 0 then 0 else if o1 = 0 then 0 else if o2 = 0 then 0 else if o3 = 0 then 0 else 1
def own_fb (g : Nat → Bool) : Int32 → Nat → Nat → Int32
  | acc, _, 0 => acc
  | acc, i, k + 1 => own_fb g (acc &&& own_b (g i)) (i + 1) k
theorem own_fold_fb (f : Nat → Int32) : ∀ (k i : Nat) (acc : Int32), own_fold f acc i k = own_fb (fun j => own_p (f j)) acc i k
  | 0, _, _ => rfl
  | k + 1, i, acc => by rw [own_fold, own_fb, own_fold_fb f k, own_turn_eq]
def own_g (b0 b1 b2 b3 : Bool) : Nat → Bool
  | 0 => b0
  | 1 => b1
  | 2 => b2
  | _ => b3
def own_okb (b : Bool) (i s e : Int32) : Int32 := if i < s then 1 else if i < e then own_b b else 1
set_option maxRecDepth 65536 in
theorem own_all : ∀ (s e : Fin 5) (b0 b1 b2 b3 : Bool), own_fb (own_g b0 b1 b2 b3) 1 s.1 (e.1 - s.1) = own_e (own_okb b0 0 (Int32.ofNat s.1) (Int32.ofNat e.1)) (own_okb b1 1 (Int32.ofNat s.1) (Int32.ofNat e.1)) (own_okb b2 2 (Int32.ofNat s.1) (Int32.ofNat e.1)) (own_okb b3 3 (Int32.ofNat s.1) (Int32.ofNat e.1)) := by decide +kernel
theorem own_fin (x0 x1 x2 x3 : Int32) (s e : Nat) (hs : s ≤ 4) (he : e ≤ 4) : own_fold (own_f x0 x1 x2 x3) (1 : Int32) s (e - s) = own_e (own_ok x0 0 (Int32.ofNat s) (Int32.ofNat e)) (own_ok x1 1 (Int32.ofNat s) (Int32.ofNat e)) (own_ok x2 2 (Int32.ofNat s) (Int32.ofNat e)) (own_ok x3 3 (Int32.ofNat s) (Int32.ofNat e)) := by
  have hg : (fun j => own_p (own_f x0 x1 x2 x3 j)) = own_g (own_p x0) (own_p x1) (own_p x2) (own_p x3) := by
    funext j
    match j with
    | 0 => rfl
    | 1 => rfl
    | 2 => rfl
    | _ + 3 => rfl
  rw [own_fold_fb, hg, own_ok_eq, own_ok_eq, own_ok_eq, own_ok_eq]
  exact own_all ⟨s, by omega⟩ ⟨e, by omega⟩ (own_p x0) (own_p x1) (own_p x2) (own_p x3)
theorem own_e01 (o0 o1 o2 o3 : Int32) : own_e o0 o1 o2 o3 = 0 ∨ own_e o0 o1 o2 o3 = 1 := by
  unfold own_e
  by_cases h0 : o0 = 0
  · simp [h0]
  · by_cases h1 : o1 = 0
    · simp [h1]
    · by_cases h2 : o2 = 0
      · simp [h2]
      · by_cases h3 : o3 = 0 <;> simp [h0, h1, h2, h3]
theorem own_m5 (p : Int32) : ∃ n : Nat, n ≤ 4 ∧ (p &&& (2147483647 : Int32)) % (5 : Int32) = Int32.ofNat n := by
  have h1 : (p &&& (2147483647 : Int32)).toInt = p.toInt % (2 ^ 31 : Nat) := c_mask p 2147483647 31 (by decide) (by decide)
  have h2 := (c_irem (p &&& (2147483647 : Int32)) 5 5 (by decide)).1 (by omega)
  refine ⟨((p &&& (2147483647 : Int32)) % (5 : Int32)).toInt.toNat, by omega, Int32.toInt_inj.mp ?_⟩
  rw [Int32.toInt_ofNat_of_lt (by omega)]
  omega
theorem d2_0 : decode prog_29_method_3_code 0 = .ok (.iconst 1, 1) := by decide +kernel
theorem d2_1 : decode prog_29_method_3_code 1 = .ok (.istore_n 3, 1) := by decide +kernel
theorem d2_2 : decode prog_29_method_3_code 2 = .ok (.iload_n 1, 1) := by decide +kernel
theorem d2_3 : decode prog_29_method_3_code 3 = .ok (.istore 4, 2) := by decide +kernel
theorem d2_43 : decode prog_29_method_3_code 43 = .ok (.iload_n 3, 1) := by decide +kernel
theorem d2_44 : decode prog_29_method_3_code 44 = .ok (.ireturn, 1) := by decide +kernel
theorem pn_com_example_tipple_tipple_Ids : plainName "com/example/tipple/tipple/Ids" = true := by first | (simp [plainName, overriddenIn]; done) | decide +kernel
theorem ef_rm2 (m : MethodId) (x0 : Addr) (x1 : Int32) (x2 : Int32) : entryFrame m #[(.ref x0), (.int x1), (.int x2)] 5 = mkF m 0 #[.val (.ref x0), .val (.int x1), .val (.int x2), .unset, .unset] [] := by first | (simp [entryFrame, mkF, argsToLocals, Value.category]; done) | rfl
def Qrm2 (Z : State) (a1 : Addr) (s_ e_ : Nat) (kA : ClassId) (x0 x1 x2 x3 : Int32) (h0 : Heap) (n0 : Nat) (v : Option Value) (h : Heap) (L : List Loc) : Prop := v = some (.int (own_fold (own_f x0 x1 x2 x3) (1 : Int32) s_ (e_ - s_))) ∧ Fr n0 L ∧ h = h0
set_option maxRecDepth 65536 in
set_option maxHeartbeats 40000000 in
theorem rm2 (l : Launch) (Z : State) (a0 : Array Value) (hw : ∀ d ∈ tables_1, d.before a0 Z = true) (ws : List Jvm.Cond) (a1 : Addr) (s_ e_ : Nat) (kA : ClassId) (x0 x1 x2 x3 : Int32) (h0 : Heap) (n0 : Nat) (Z0 : n0 ≤ h0.size) (hs4 : s_ ≤ 4) (he4 : e_ ≤ 4) (V_b : Arv Z h0 a1 kA .char (4 : Int32) [(.int x0), (.int x1), (.int x2), (.int x3)] (.int (0 : Int32))) :
    MetFree l (⟨"com/example/tipple/tipple/Ids", "isPrintableAscii", "([CII)Z"⟩ : MethodName) (head1 (Jvm.Cond.code (⟨"com/example/tipple/tipple/Ids", "isPrintableAscii", "([CII)Z"⟩ : MethodName) prog_29_method_3_code 5 (some .boolean) :: ws) ({ frames := 0, cells := 0, slots := 0, locals := 0 } : Room)) (fun a U => a = #[(.ref a1), (.int (Int32.ofNat s_)), (.int (Int32.ofNat e_))] ∧ Z.Warmed39 U.vm ∧ U.heap = h0) (fun _ _ _ _ _ => True) (fun _ U o U' => ∃ v L, o = .returned v ∧ Qrm2 Z a1 s_ e_ kA x0 x1 x2 x3 h0 n0 v U'.heap L ∧ FrameEnd U o U' L ({ frames := 0, cells := 0, slots := 0, locals := 0 } : Room).cells ({ frames := 0, cells := 0, slots := 0, locals := 0 } : Room).slots) := by
  refine MetFree.of_bodySF (plainFor_of_name pn_com_example_tipple_tipple_Ids) hisR ?_
  intro p e s m args below meth c s₁ Bd hml0 hP hK
  obtain ⟨rfl, hZ, hh⟩ := hP
  have hx := Bd.exec
  have hby := Bd.bytes
  have hml : c.maxLocals = 5 := hml0
  have hown : s.vm.findClass "com/example/tipple/tipple/Ids" = some m.cls := findClass_of_methodNamed Bd.named
  have hnm := (name_of_methodNamed Bd.named Bd.method).1
  have X0 : Stand p l e ({ frames := 0, cells := 0, slots := 0, locals := 0 } : Room) s m #[(.ref a1), (.int (Int32.ofNat s_)), (.int (Int32.ofNat e_))] below meth c s₁ [] 0 0 := Stand.of_body Bd
  have e0 : s₁.heap = h0 := by rw [← hh, Bd.state]; rfl
  have N0 := Fr.nil n0
  have pre0 : ∀ t, Steps p.tables e below (s₁.setTop (mkF m 0 #[.val (.ref a1), .val (.int (Int32.ofNat s_)), .val (.int (Int32.ofNat e_)), .unset, .unset] [])) t → Steps p.tables e below (s₁.setTop (entryFrame m #[(.ref a1), (.int (Int32.ofNat s_)), (.int (Int32.ofNat e_))] 5)) t := fun t k => castTop (ef_rm2 m a1 (Int32.ofNat s_) (Int32.ofNat e_)) k
  obtain ⟨cl, Ar, -, S_, M_, Hs, -⟩ := V_b
  have S4 : cl.slots.size = 4 := S_.trans (by decide)
  have hat : ∀ j, j < 4 → cl.slots[j]? = some (.int (own_f x0 x1 x2 x3 j)) := fun j hj => by
    have q := Hs j (by omega)
    rw [own_at x0 x1 x2 x3 hj] at q
    exact q
  have own_nb : nar .boolean (own_fold (own_f x0 x1 x2 x3) (1 : Int32) s_ (e_ - s_)) = own_fold (own_f x0 x1 x2 x3) (1 : Int32) s_ (e_ - s_) := by
    rw [own_fin x0 x1 x2 x3 s_ e_ hs4 he4]
    rcases own_e01 (own_ok x0 0 (Int32.ofNat s_) (Int32.ofNat e_)) (own_ok x1 1 (Int32.ofNat s_) (Int32.ofNat e_)) (own_ok x2 2 (Int32.ofNat s_) (Int32.ofNat e_)) (own_ok x3 3 (Int32.ofNat s_) (Int32.ofNat e_)) with q | q <;> rw [q] <;> rfl
  obtain ⟨fs, hr, hrun, hended, hW, hsame⟩ := X0.leave (v := some (.int (own_fold (own_f x0 x1 x2 x3) (1 : Int32) s_ (e_ - s_)))) (fun h => by rw [Bd.returns] at h; cases h)
  refine ⟨_, _, pre0 _ ?_, hrun, hended, _, _, rfl, ?_, ⟨_, rfl⟩, hW, hsame.mono (by decide) (by decide)⟩
  · show Steps p.tables e below (s₁.setTop (mkF m 0 #[.val (.ref a1), .val (.int (Int32.ofNat s_)), .val (.int (Int32.ofNat e_)), .unset, .unset] [])) _
    refine XS.iconst X0.here hx rfl (hb hby d2_0) ?_
    show Steps p.tables e below (s₁.setTop (mkF m 1 #[.val (.ref a1), .val (.int (Int32.ofNat s_)), .val (.int (Int32.ofNat e_)), .unset, .unset] [(.int (1 : Int32))])) _
    refine XS.istoreN X0.here hx rfl (hb hby d2_1) rfl (l' := #[.val (.ref a1), .val (.int (Int32.ofNat s_)), .val (.int (Int32.ofNat e_)), .val (.int (1 : Int32)), .unset]) rfl ?_
    show Steps p.tables e below (s₁.setTop (mkF m 2 #[.val (.ref a1), .val (.int (Int32.ofNat s_)), .val (.int (Int32.ofNat e_)), .val (.int (1 : Int32)), .unset] [])) _
    refine XS.iloadN X0.here hx rfl (hb hby d2_2) rfl ?_
    show Steps p.tables e below (s₁.setTop (mkF m 3 #[.val (.ref a1), .val (.int (Int32.ofNat s_)), .val (.int (Int32.ofNat e_)), .val (.int (1 : Int32)), .unset] [(.int (Int32.ofNat s_))])) _
    refine XS.istore X0.here hx rfl (hb hby d2_3) rfl (l' := #[.val (.ref a1), .val (.int (Int32.ofNat s_)), .val (.int (Int32.ofNat e_)), .val (.int (1 : Int32)), .val (.int (Int32.ofNat s_))]) rfl ?_
    show Steps p.tables e below (s₁.setTop (mkF m 5 #[.val (.ref a1), .val (.int (Int32.ofNat s_)), .val (.int (Int32.ofNat e_)), .val (.int (1 : Int32)), .val (.int (Int32.ofNat s_))] [])) _
    refine own_loop a1 (Int32.ofNat s_) (own_f x0 x1 x2 x3) e_ he4 cl X0 hx hZ hw hby hml hown e0 Ar S4 hat (e_ - s_) s_ (1 : Int32) (by omega) hs4 _ ?_
    show Steps p.tables e below (s₁.setTop (mkF m 43 #[.val (.ref a1), .val (.int (Int32.ofNat s_)), .val (.int (Int32.ofNat e_)), .val (.int (own_fold (own_f x0 x1 x2 x3) (1 : Int32) s_ (e_ - s_))), .val (.int (Int32.ofNat (s_ + (e_ - s_))))] [])) _
    refine XS.iloadN X0.here hx rfl (hb hby d2_43) rfl ?_
    show Steps p.tables e below (s₁.setTop (mkF m 44 #[.val (.ref a1), .val (.int (Int32.ofNat s_)), .val (.int (Int32.ofNat e_)), .val (.int (own_fold (own_f x0 x1 x2 x3) (1 : Int32) s_ (e_ - s_))), .val (.int (Int32.ofNat (s_ + (e_ - s_))))] [(.int (own_fold (own_f x0 x1 x2 x3) (1 : Int32) s_ (e_ - s_)))])) _
    exact retN X0 hx (t := .boolean) Bd.returns (by simp) (hb hby d2_44) (by rw [own_nb]; exact hr)
  · show Qrm2 Z a1 s_ e_ kA x0 x1 x2 x3 h0 n0 _ s₁.heap _
    rw [e0]
    exact ⟨rfl, N0, rfl⟩
def own_xs (p : Int32) : Int32 := (p.toUInt32 >>> ((16 : Int32) &&& 31).toUInt32).toInt32
theorem pd_0 : parseMethodDescriptor "(CIII)Z" = some ⟨[.char, .int, .int, .int], some .boolean⟩ := by decide +kernel
theorem pd_1 : parseMethodDescriptor "([CII)Z" = some ⟨[(.array .char), .int, .int], some .boolean⟩ := by decide +kernel
theorem ef_rm0 (m : MethodId) (x0 : Int32) (x1 : Int32) (x2 : Int32) (x3 : Int32) : entryFrame m #[(.int x0), (.int x1), (.int x2), (.int x3)] maxLocals = mkF m 0 #[.val (.int x0), .val (.int x1), .val (.int x2), .val (.int x3), .unset, .unset, .unset, .unset] [] := by first | (simp [entryFrame, mkF, argsToLocals, Value.category, maxLocals]; done) | rfl
def Qrm0 (Z : State) (p1 : Int32) (p2 : Int32) (p3 : Int32) (p4 : Int32)  (h0 : Heap) (n0 : Nat) (v : Option Value) (h : Heap) (L : List Loc) : Prop := v = some (.int (1 : Int32)) ∧ Fr n0 L
set_option maxRecDepth 65536 in
set_option maxHeartbeats 40000000 in
theorem rm0 (l : Launch) (Z : State) (a0 : Array Value) (hw : ∀ d ∈ tables_1, d.before a0 Z = true) (ws : List Jvm.Cond) (p1 : Int32) (p2 : Int32) (p3 : Int32) (p4 : Int32)  (h0 : Heap) (n0 : Nat) (Z0 : n0 ≤ h0.size)  :
    MetFree l x (head1 (Jvm.Cond.code x code maxLocals ret :: ws) room_1) (fun a U => a = #[(.int p1), (.int p2), (.int p3), (.int p4)] ∧ Z.Warmed39 U.vm ∧ U.heap = h0) (fun _ _ _ _ _ => True) (fun _ U o U' => ∃ v L, o = .returned v ∧ Qrm0 Z p1 p2 p3 p4  h0 n0 v U'.heap L ∧ FrameEnd U o U' L room_1.cells room_1.slots) := by
  refine MetFree.of_bodySF (plainFor_of_name pn_com_example_tipple_tipple_IdsIsPrintableAsciiPinLaw) hisR ?_
  intro p e s m args below meth c s₁ Bd hml0 hP hK
  obtain ⟨rfl, hZ, hh⟩ := hP
  have hx := Bd.exec
  have hby := Bd.bytes
  have hml : c.maxLocals = 8 := hml0
  have hown : s.vm.findClass "com/example/tipple/tipple/IdsIsPrintableAsciiPinLaw" = some m.cls := findClass_of_methodNamed Bd.named
  have hnm := (name_of_methodNamed Bd.named Bd.method).1
  have X0 : Stand p l e room_1 s m #[(.int p1), (.int p2), (.int p3), (.int p4)] below meth c s₁ [] 0 0 := Stand.of_body Bd
  have e0 : s₁.heap = h0 := by rw [← hh, Bd.state]; rfl
  have N0 := Fr.nil n0
  have pre0 : ∀ t, Steps p.tables e below (s₁.setTop (mkF m 0 #[.val (.int p1), .val (.int p2), .val (.int p3), .val (.int p4), .unset, .unset, .unset, .unset] [])) t → Steps p.tables e below (s₁.setTop (entryFrame m #[(.int p1), (.int p2), (.int p3), (.int p4)] maxLocals)) t := fun t k => castTop (ef_rm0 m p1 p2 p3 p4) k
  obtain ⟨s_, hs4, es⟩ := own_m5 p3
  obtain ⟨e_, he4, ee⟩ := own_m5 p4
  obtain ⟨T1, h1, k1, X1, e1, E1, A1, st1⟩ := newP X0 hx hZ (hw _ (List.mem_of_getElem? (i := 0) rfl)) e0 (g := (mkF m 1 #[.val (.int p1), .val (.int p2), .val (.int p3), .val (.int p4), .unset, .unset, .unset, .unset] [(.int (4 : Int32))])) rfl (hb hby at_1) rfl (by decide) (cap := 4) (by decide) (by decide) (by decide) (by decide)
  obtain ⟨b1, g1⟩ : ∃ z, z = h0.size := ⟨_, rfl⟩
  rw [← g1] at A1 st1
  have g_b1 : n0 ≤ b1 := Nat.le_trans Z0 (Nat.le_of_eq g1.symm)
  have sz_b1 : h0.size ≤ b1 := Nat.le_trans (Keep.refl h0 []).1 (Nat.le_of_eq g1.symm)
  have Z2 : n0 ≤ h1.size := Nat.le_trans Z0 E1.1
  have V_b1 : Arv Z h1 b1 k1 .char (4 : Int32) [(.int (0 : Int32)), (.int (0 : Int32)), (.int (0 : Int32)), (.int (0 : Int32))] (.int (0 : Int32)) := (Arv.new A1 (by decide)).pad (pad_rep [] (.int (0 : Int32)) 4)
  obtain ⟨cl3, Ar3, q3, S3, M3, Hs3, G3⟩ := V_b1
  have hin3 : ¬ ((0 : Int32) < 0 ∨ cl3.slots.size ≤ ((0 : Int32)).toNatClampNeg) := inb_of S3 ⟨by decide, by decide⟩
  obtain ⟨T4, h4, X4, e4, W4, st4⟩ := stC X1 hx hZ e1 Ar3 (j := (0 : Int32)) hin3 (g := (mkF m 13 #[.val (.int p1), .val (.int p2), .val (.int p3), .val (.int p4), .val (.ref b1), .unset, .unset, .unset] [(.int (nar .char (p1 &&& (65535 : Int32)))), (.int (0 : Int32)), (.ref b1)])) rfl rfl (hb hby at_13)
  have Z5 : n0 ≤ h4.size := Nat.le_trans Z2 (Keep.of_wr W4).1
  have V4 := Arv.set Ar3 q3 S3 M3 Hs3 G3 (fits_nar_char _) W4 0 rfl (Nat.le_of_ble_eq_true rfl)
  have N4 := Fr.snoc X4 N0 g_b1
  obtain ⟨cl6, Ar6, q6, S6, M6, Hs6, G6⟩ := V4
  have hin6 : ¬ ((1 : Int32) < 0 ∨ cl6.slots.size ≤ ((1 : Int32)).toNatClampNeg) := inb_of S6 ⟨by decide, by decide⟩
  obtain ⟨T7, h7, X7, e7, W7, st7⟩ := stC X4 hx hZ e4 Ar6 (j := (1 : Int32)) hin6 (g := (mkF m 22 #[.val (.int p1), .val (.int p2), .val (.int p3), .val (.int p4), .val (.ref b1), .unset, .unset, .unset] [(.int (nar .char (own_xs p1))), (.int (1 : Int32)), (.ref b1)])) rfl rfl (hb hby at_22)
  have Z8 : n0 ≤ h7.size := Nat.le_trans Z5 (Keep.of_wr W7).1
  have V7 := Arv.set Ar6 q6 S6 M6 Hs6 G6 (fits_nar_char _) W7 1 rfl (Nat.le_of_ble_eq_true rfl)
  have N7 := Fr.snoc X7 N4 g_b1
  obtain ⟨cl9, Ar9, q9, S9, M9, Hs9, G9⟩ := V7
  have hin9 : ¬ ((2 : Int32) < 0 ∨ cl9.slots.size ≤ ((2 : Int32)).toNatClampNeg) := inb_of S9 ⟨by decide, by decide⟩
  obtain ⟨T10, h10, X10, e10, W10, st10⟩ := stC X7 hx hZ e7 Ar9 (j := (2 : Int32)) hin9 (g := (mkF m 31 #[.val (.int p1), .val (.int p2), .val (.int p3), .val (.int p4), .val (.ref b1), .unset, .unset, .unset] [(.int (nar .char (p2 &&& (65535 : Int32)))), (.int (2 : Int32)), (.ref b1)])) rfl rfl (hb hby at_31)
  have Z11 : n0 ≤ h10.size := Nat.le_trans Z8 (Keep.of_wr W10).1
  have V10 := Arv.set Ar9 q9 S9 M9 Hs9 G9 (fits_nar_char _) W10 2 rfl (Nat.le_of_ble_eq_true rfl)
  have N10 := Fr.snoc X10 N7 g_b1
  obtain ⟨cl12, Ar12, q12, S12, M12, Hs12, G12⟩ := V10
  have hin12 : ¬ ((3 : Int32) < 0 ∨ cl12.slots.size ≤ ((3 : Int32)).toNatClampNeg) := inb_of S12 ⟨by decide, by decide⟩
  obtain ⟨T13, h13, X13, e13, W13, st13⟩ := stC X10 hx hZ e10 Ar12 (j := (3 : Int32)) hin12 (g := (mkF m 40 #[.val (.int p1), .val (.int p2), .val (.int p3), .val (.int p4), .val (.ref b1), .unset, .unset, .unset] [(.int (nar .char (own_xs p2))), (.int (3 : Int32)), (.ref b1)])) rfl rfl (hb hby at_40)
  have Z14 : n0 ≤ h13.size := Nat.le_trans Z11 (Keep.of_wr W13).1
  have V13 := Arv.set Ar12 q12 S12 M12 Hs12 G12 (fits_nar_char _) W13 3 rfl (Nat.le_of_ble_eq_true rfl)
  have N13 := Fr.snoc X13 N10 g_b1
  obtain ⟨cl15, Ar15, -, S15, M15, Hs15, -⟩ := (id V13)
  have hin15 : ¬ ((0 : Int32) < 0 ∨ cl15.slots.size ≤ ((0 : Int32)).toNatClampNeg) := inb_of S15 ⟨by decide, by decide⟩
  have hat15 : cl15.slots[((0 : Int32)).toNatClampNeg]? = some (.int (nar .char (nar .char (p1 &&& (65535 : Int32))))) := Has.at Hs15 hin15 rfl
  obtain ⟨_, _, ⟨T16, L16, k16, n16⟩, -, X16, ⟨Lc16, hQ16, l16, y16, z16⟩, st16⟩ := Jvm.LawKit.callS X13 hx (y := (⟨"com/example/tipple/tipple/IdsIsPrintableAsciiPinLaw", "ok", "(CIII)Z"⟩ : MethodName)) hown (mvT hZ (hw _ (List.mem_of_getElem? (i := 3) rfl))) (mvT hZ (hw _ (List.mem_of_getElem? (i := 4) rfl))) (mvT hZ (hw _ (List.mem_of_getElem? (i := 5) rfl))) (mvT hZ (hw _ (List.mem_of_getElem? (i := 6) rfl))) (by decide) (backOf (W := 0) (rm1 l Z a0 hw [] (nar .char (nar .char (p1 &&& (65535 : Int32)))) (0 : Int32) (Int32.ofNat s_) (Int32.ofNat e_)  h13 n0 Z14 ) hZ (hw _ (List.mem_of_getElem? (i := 6) rfl)) (hw _ (List.mem_of_getElem? (i := 5) rfl)) (by decide) (by decide)) (g := (mkF m 66 #[.val (.int p1), .val (.int p2), .val (.int p3), .val (.int p4), .val (.ref b1), .val (.int (Int32.ofNat s_)), .val (.int (Int32.ofNat e_)), .unset] [(.int (Int32.ofNat e_)), (.int (Int32.ofNat s_)), (.int (0 : Int32)), (.int (nar .char (nar .char (p1 &&& (65535 : Int32)))))])) rfl (by rw [hml]; rfl) (argsL := [(.int (nar .char (nar .char (p1 &&& (65535 : Int32))))), (.int (0 : Int32)), (.int (Int32.ofNat s_)), (.int (Int32.ofNat e_))]) (rest := []) (lenOf pd_0 rfl) rfl (by show 2 * 0 + _ ≤ _; exact Nat.le_of_eq rfl) (hb hby at_66) (fun _ _ => ⟨rfl, e13, (by decide : 1 + 0 ≤ _), (by decide : 4 + 0 ≤ _)⟩)
  dsimp only [Pt.U, Pt.locs, Pt.cells, Pt.slots] at X16 l16 y16 z16 st16 hQ16
  subst l16 y16 z16
  obtain ⟨rfl, N16q, e16⟩ := hQ16
  have N16 := Fr.app N13 N16q
  by_cases ht0 : (own_ok (nar .char (nar .char (p1 &&& (65535 : Int32)))) (0 : Int32) (Int32.ofNat s_) (Int32.ofNat e_)) = (0 : Int32)
  · obtain ⟨_, _, ⟨T17, L17, k17, n17⟩, -, X17, ⟨Lc17, hQ17, l17, y17, z17⟩, st17⟩ := Jvm.LawKit.callS X16 hx (y := (⟨"com/example/tipple/tipple/Ids", "isPrintableAscii", "([CII)Z"⟩ : MethodName)) hown (mvT hZ (hw _ (List.mem_of_getElem? (i := 7) rfl))) (mvT hZ (hw _ (List.mem_of_getElem? (i := 8) rfl))) (mvT hZ (hw _ (List.mem_of_getElem? (i := 9) rfl))) (mvT hZ (hw _ (List.mem_of_getElem? (i := 10) rfl))) (by decide) (backOf (W := 0) (rm2 l Z a0 hw [] b1 s_ e_ k1 (nar .char (nar .char (p1 &&& (65535 : Int32)))) (nar .char (nar .char (own_xs p1))) (nar .char (nar .char (p2 &&& (65535 : Int32)))) (nar .char (nar .char (own_xs p2))) h13 n0 Z14 hs4 he4 V13) hZ (hw _ (List.mem_of_getElem? (i := 10) rfl)) (hw _ (List.mem_of_getElem? (i := 9) rfl)) (by decide) (by decide)) (g := (mkF m 130 #[.val (.int p1), .val (.int p2), .val (.int p3), .val (.int p4), .val (.ref b1), .val (.int (Int32.ofNat s_)), .val (.int (Int32.ofNat e_)), .val (.int (0 : Int32))] [(.int (Int32.ofNat e_)), (.int (Int32.ofNat s_)), (.ref b1)])) rfl (by rw [hml]; rfl) (argsL := [(.ref b1), (.int (Int32.ofNat s_)), (.int (Int32.ofNat e_))]) (rest := []) (lenOf pd_1 rfl) rfl (by show 2 * 0 + _ ≤ _; exact Nat.le_of_eq rfl) (hb hby at_130) (fun _ _ => ⟨rfl, e16, (by decide : 1 + 0 ≤ _), (by decide : 4 + 0 ≤ _)⟩)
    dsimp only [Pt.U, Pt.locs, Pt.cells, Pt.slots] at X17 l17 y17 z17 st17 hQ17
    subst l17 y17 z17
    obtain ⟨rfl, N17q, e17⟩ := hQ17
    have N17 := Fr.app N16 N17q
    obtain ⟨fs, hr, hrun, hended, hW, hsame⟩ := X17.leave (v := some (.int (1 : Int32))) (fun h => by rw [Bd.returns] at h; cases h)
    refine ⟨_, _, pre0 _ ?_, hrun, hended, _, _, rfl, ?_, ⟨_, rfl⟩, hW, hsame.mono (by decide) (by decide)⟩
    · show Steps p.tables e below (s₁.setTop (mkF m 0 #[.val (.int p1), .val (.int p2), .val (.int p3), .val (.int p4), .unset, .unset, .unset, .unset] [])) _
      refine XS.iconst X0.here hx rfl (hb hby at_0) ?_
      show Steps p.tables e below (s₁.setTop (mkF m 1 #[.val (.int p1), .val (.int p2), .val (.int p3), .val (.int p4), .unset, .unset, .unset, .unset] [(.int (4 : Int32))])) _
      refine st1 _ ?_
      show Steps p.tables e below (T1.setTop (mkF m 3 #[.val (.int p1), .val (.int p2), .val (.int p3), .val (.int p4), .unset, .unset, .unset, .unset] [(.ref b1)])) _
      refine XS.astore X1.here hx rfl (hb hby at_3) rfl rfl (l' := #[.val (.int p1), .val (.int p2), .val (.int p3), .val (.int p4), .val (.ref b1), .unset, .unset, .unset]) rfl ?_
      show Steps p.tables e below (T1.setTop (mkF m 5 #[.val (.int p1), .val (.int p2), .val (.int p3), .val (.int p4), .val (.ref b1), .unset, .unset, .unset] [])) _
      refine XS.aload X1.here hx rfl (hb hby at_5) rfl rfl ?_
      show Steps p.tables e below (T1.setTop (mkF m 7 #[.val (.int p1), .val (.int p2), .val (.int p3), .val (.int p4), .val (.ref b1), .unset, .unset, .unset] [(.ref b1)])) _
      refine XS.iconst X1.here hx rfl (hb hby at_7) ?_
      show Steps p.tables e below (T1.setTop (mkF m 8 #[.val (.int p1), .val (.int p2), .val (.int p3), .val (.int p4), .val (.ref b1), .unset, .unset, .unset] [(.int (0 : Int32)), (.ref b1)])) _
      refine XS.iloadN X1.here hx rfl (hb hby at_8) rfl ?_
      show Steps p.tables e below (T1.setTop (mkF m 9 #[.val (.int p1), .val (.int p2), .val (.int p3), .val (.int p4), .val (.ref b1), .unset, .unset, .unset] [(.int p1), (.int (0 : Int32)), (.ref b1)])) _
      refine X1.ldcInt hx hown (mvT hZ (hw _ (List.mem_of_getElem? (i := 1) rfl))) (g := (mkF m 9 #[.val (.int p1), .val (.int p2), .val (.int p3), .val (.int p4), .val (.ref b1), .unset, .unset, .unset] [(.int p1), (.int (0 : Int32)), (.ref b1)])) rfl (hb hby at_9) _ ?_
      show Steps p.tables e below (T1.setTop (mkF m 11 #[.val (.int p1), .val (.int p2), .val (.int p3), .val (.int p4), .val (.ref b1), .unset, .unset, .unset] [(.int (65535 : Int32)), (.int p1), (.int (0 : Int32)), (.ref b1)])) _
      refine XS.iand X1.here hx rfl (hb hby at_11) rfl ?_
      show Steps p.tables e below (T1.setTop (mkF m 12 #[.val (.int p1), .val (.int p2), .val (.int p3), .val (.int p4), .val (.ref b1), .unset, .unset, .unset] [(.int (p1 &&& (65535 : Int32))), (.int (0 : Int32)), (.ref b1)])) _
      refine XS.i2c X1.here hx rfl (hb hby at_12) rfl ?_
      show Steps p.tables e below (T1.setTop (mkF m 13 #[.val (.int p1), .val (.int p2), .val (.int p3), .val (.int p4), .val (.ref b1), .unset, .unset, .unset] [(.int (nar .char (p1 &&& (65535 : Int32)))), (.int (0 : Int32)), (.ref b1)])) _
      refine st4 _ ?_
      show Steps p.tables e below (T4.setTop (mkF m 14 #[.val (.int p1), .val (.int p2), .val (.int p3), .val (.int p4), .val (.ref b1), .unset, .unset, .unset] [])) _
      refine XS.aload X4.here hx rfl (hb hby at_14) rfl rfl ?_
      show Steps p.tables e below (T4.setTop (mkF m 16 #[.val (.int p1), .val (.int p2), .val (.int p3), .val (.int p4), .val (.ref b1), .unset, .unset, .unset] [(.ref b1)])) _
      refine XS.iconst X4.here hx rfl (hb hby at_16) ?_
      show Steps p.tables e below (T4.setTop (mkF m 17 #[.val (.int p1), .val (.int p2), .val (.int p3), .val (.int p4), .val (.ref b1), .unset, .unset, .unset] [(.int (1 : Int32)), (.ref b1)])) _
      refine XS.iloadN X4.here hx rfl (hb hby at_17) rfl ?_
      show Steps p.tables e below (T4.setTop (mkF m 18 #[.val (.int p1), .val (.int p2), .val (.int p3), .val (.int p4), .val (.ref b1), .unset, .unset, .unset] [(.int p1), (.int (1 : Int32)), (.ref b1)])) _
      refine XS.bipush X4.here hx rfl (hb hby at_18) ?_
      show Steps p.tables e below (T4.setTop (mkF m 20 #[.val (.int p1), .val (.int p2), .val (.int p3), .val (.int p4), .val (.ref b1), .unset, .unset, .unset] [(.int (16 : Int32)), (.int p1), (.int (1 : Int32)), (.ref b1)])) _
      refine XS.iushr X4.here hx rfl (hb hby at_20) rfl ?_
      show Steps p.tables e below (T4.setTop (mkF m 21 #[.val (.int p1), .val (.int p2), .val (.int p3), .val (.int p4), .val (.ref b1), .unset, .unset, .unset] [(.int (own_xs p1)), (.int (1 : Int32)), (.ref b1)])) _
      refine XS.i2c X4.here hx rfl (hb hby at_21) rfl ?_
      show Steps p.tables e below (T4.setTop (mkF m 22 #[.val (.int p1), .val (.int p2), .val (.int p3), .val (.int p4), .val (.ref b1), .unset, .unset, .unset] [(.int (nar .char (own_xs p1))), (.int (1 : Int32)), (.ref b1)])) _
      refine st7 _ ?_
      show Steps p.tables e below (T7.setTop (mkF m 23 #[.val (.int p1), .val (.int p2), .val (.int p3), .val (.int p4), .val (.ref b1), .unset, .unset, .unset] [])) _
      refine XS.aload X7.here hx rfl (hb hby at_23) rfl rfl ?_
      show Steps p.tables e below (T7.setTop (mkF m 25 #[.val (.int p1), .val (.int p2), .val (.int p3), .val (.int p4), .val (.ref b1), .unset, .unset, .unset] [(.ref b1)])) _
      refine XS.iconst X7.here hx rfl (hb hby at_25) ?_
      show Steps p.tables e below (T7.setTop (mkF m 26 #[.val (.int p1), .val (.int p2), .val (.int p3), .val (.int p4), .val (.ref b1), .unset, .unset, .unset] [(.int (2 : Int32)), (.ref b1)])) _
      refine XS.iloadN X7.here hx rfl (hb hby at_26) rfl ?_
      show Steps p.tables e below (T7.setTop (mkF m 27 #[.val (.int p1), .val (.int p2), .val (.int p3), .val (.int p4), .val (.ref b1), .unset, .unset, .unset] [(.int p2), (.int (2 : Int32)), (.ref b1)])) _
      refine X7.ldcInt hx hown (mvT hZ (hw _ (List.mem_of_getElem? (i := 1) rfl))) (g := (mkF m 27 #[.val (.int p1), .val (.int p2), .val (.int p3), .val (.int p4), .val (.ref b1), .unset, .unset, .unset] [(.int p2), (.int (2 : Int32)), (.ref b1)])) rfl (hb hby at_27) _ ?_
      show Steps p.tables e below (T7.setTop (mkF m 29 #[.val (.int p1), .val (.int p2), .val (.int p3), .val (.int p4), .val (.ref b1), .unset, .unset, .unset] [(.int (65535 : Int32)), (.int p2), (.int (2 : Int32)), (.ref b1)])) _
      refine XS.iand X7.here hx rfl (hb hby at_29) rfl ?_
      show Steps p.tables e below (T7.setTop (mkF m 30 #[.val (.int p1), .val (.int p2), .val (.int p3), .val (.int p4), .val (.ref b1), .unset, .unset, .unset] [(.int (p2 &&& (65535 : Int32))), (.int (2 : Int32)), (.ref b1)])) _
      refine XS.i2c X7.here hx rfl (hb hby at_30) rfl ?_
      show Steps p.tables e below (T7.setTop (mkF m 31 #[.val (.int p1), .val (.int p2), .val (.int p3), .val (.int p4), .val (.ref b1), .unset, .unset, .unset] [(.int (nar .char (p2 &&& (65535 : Int32)))), (.int (2 : Int32)), (.ref b1)])) _
      refine st10 _ ?_
      show Steps p.tables e below (T10.setTop (mkF m 32 #[.val (.int p1), .val (.int p2), .val (.int p3), .val (.int p4), .val (.ref b1), .unset, .unset, .unset] [])) _
      refine XS.aload X10.here hx rfl (hb hby at_32) rfl rfl ?_
      show Steps p.tables e below (T10.setTop (mkF m 34 #[.val (.int p1), .val (.int p2), .val (.int p3), .val (.int p4), .val (.ref b1), .unset, .unset, .unset] [(.ref b1)])) _
      refine XS.iconst X10.here hx rfl (hb hby at_34) ?_
      show Steps p.tables e below (T10.setTop (mkF m 35 #[.val (.int p1), .val (.int p2), .val (.int p3), .val (.int p4), .val (.ref b1), .unset, .unset, .unset] [(.int (3 : Int32)), (.ref b1)])) _
      refine XS.iloadN X10.here hx rfl (hb hby at_35) rfl ?_
      show Steps p.tables e below (T10.setTop (mkF m 36 #[.val (.int p1), .val (.int p2), .val (.int p3), .val (.int p4), .val (.ref b1), .unset, .unset, .unset] [(.int p2), (.int (3 : Int32)), (.ref b1)])) _
      refine XS.bipush X10.here hx rfl (hb hby at_36) ?_
      show Steps p.tables e below (T10.setTop (mkF m 38 #[.val (.int p1), .val (.int p2), .val (.int p3), .val (.int p4), .val (.ref b1), .unset, .unset, .unset] [(.int (16 : Int32)), (.int p2), (.int (3 : Int32)), (.ref b1)])) _
      refine XS.iushr X10.here hx rfl (hb hby at_38) rfl ?_
      show Steps p.tables e below (T10.setTop (mkF m 39 #[.val (.int p1), .val (.int p2), .val (.int p3), .val (.int p4), .val (.ref b1), .unset, .unset, .unset] [(.int (own_xs p2)), (.int (3 : Int32)), (.ref b1)])) _
      refine XS.i2c X10.here hx rfl (hb hby at_39) rfl ?_
      show Steps p.tables e below (T10.setTop (mkF m 40 #[.val (.int p1), .val (.int p2), .val (.int p3), .val (.int p4), .val (.ref b1), .unset, .unset, .unset] [(.int (nar .char (own_xs p2))), (.int (3 : Int32)), (.ref b1)])) _
      refine st13 _ ?_
      show Steps p.tables e below (T13.setTop (mkF m 41 #[.val (.int p1), .val (.int p2), .val (.int p3), .val (.int p4), .val (.ref b1), .unset, .unset, .unset] [])) _
      refine XS.iloadN X13.here hx rfl (hb hby at_41) rfl ?_
      show Steps p.tables e below (T13.setTop (mkF m 42 #[.val (.int p1), .val (.int p2), .val (.int p3), .val (.int p4), .val (.ref b1), .unset, .unset, .unset] [(.int p3)])) _
      refine X13.ldcInt hx hown (mvT hZ (hw _ (List.mem_of_getElem? (i := 2) rfl))) (g := (mkF m 42 #[.val (.int p1), .val (.int p2), .val (.int p3), .val (.int p4), .val (.ref b1), .unset, .unset, .unset] [(.int p3)])) rfl (hb hby at_42) _ ?_
      show Steps p.tables e below (T13.setTop (mkF m 44 #[.val (.int p1), .val (.int p2), .val (.int p3), .val (.int p4), .val (.ref b1), .unset, .unset, .unset] [(.int (2147483647 : Int32)), (.int p3)])) _
      refine XS.iand X13.here hx rfl (hb hby at_44) rfl ?_
      show Steps p.tables e below (T13.setTop (mkF m 45 #[.val (.int p1), .val (.int p2), .val (.int p3), .val (.int p4), .val (.ref b1), .unset, .unset, .unset] [(.int (p3 &&& (2147483647 : Int32)))])) _
      refine XS.iconst X13.here hx rfl (hb hby at_45) ?_
      show Steps p.tables e below (T13.setTop (mkF m 46 #[.val (.int p1), .val (.int p2), .val (.int p3), .val (.int p4), .val (.ref b1), .unset, .unset, .unset] [(.int (5 : Int32)), (.int (p3 &&& (2147483647 : Int32)))])) _
      refine iremM X13 hx rfl (hb hby at_46) rfl (by decide) ?_
      show Steps p.tables e below (T13.setTop (mkF m 47 #[.val (.int p1), .val (.int p2), .val (.int p3), .val (.int p4), .val (.ref b1), .unset, .unset, .unset] [(.int ((p3 &&& (2147483647 : Int32)) % (5 : Int32)))])) _
      rw [es]
      show Steps p.tables e below (T13.setTop (mkF m 47 #[.val (.int p1), .val (.int p2), .val (.int p3), .val (.int p4), .val (.ref b1), .unset, .unset, .unset] [(.int (Int32.ofNat s_))])) _
      refine XS.istore X13.here hx rfl (hb hby at_47) rfl (l' := #[.val (.int p1), .val (.int p2), .val (.int p3), .val (.int p4), .val (.ref b1), .val (.int (Int32.ofNat s_)), .unset, .unset]) rfl ?_
      show Steps p.tables e below (T13.setTop (mkF m 49 #[.val (.int p1), .val (.int p2), .val (.int p3), .val (.int p4), .val (.ref b1), .val (.int (Int32.ofNat s_)), .unset, .unset] [])) _
      refine XS.iloadN X13.here hx rfl (hb hby at_49) rfl ?_
      show Steps p.tables e below (T13.setTop (mkF m 50 #[.val (.int p1), .val (.int p2), .val (.int p3), .val (.int p4), .val (.ref b1), .val (.int (Int32.ofNat s_)), .unset, .unset] [(.int p4)])) _
      refine X13.ldcInt hx hown (mvT hZ (hw _ (List.mem_of_getElem? (i := 2) rfl))) (g := (mkF m 50 #[.val (.int p1), .val (.int p2), .val (.int p3), .val (.int p4), .val (.ref b1), .val (.int (Int32.ofNat s_)), .unset, .unset] [(.int p4)])) rfl (hb hby at_50) _ ?_
      show Steps p.tables e below (T13.setTop (mkF m 52 #[.val (.int p1), .val (.int p2), .val (.int p3), .val (.int p4), .val (.ref b1), .val (.int (Int32.ofNat s_)), .unset, .unset] [(.int (2147483647 : Int32)), (.int p4)])) _
      refine XS.iand X13.here hx rfl (hb hby at_52) rfl ?_
      show Steps p.tables e below (T13.setTop (mkF m 53 #[.val (.int p1), .val (.int p2), .val (.int p3), .val (.int p4), .val (.ref b1), .val (.int (Int32.ofNat s_)), .unset, .unset] [(.int (p4 &&& (2147483647 : Int32)))])) _
      refine XS.iconst X13.here hx rfl (hb hby at_53) ?_
      show Steps p.tables e below (T13.setTop (mkF m 54 #[.val (.int p1), .val (.int p2), .val (.int p3), .val (.int p4), .val (.ref b1), .val (.int (Int32.ofNat s_)), .unset, .unset] [(.int (5 : Int32)), (.int (p4 &&& (2147483647 : Int32)))])) _
      refine iremM X13 hx rfl (hb hby at_54) rfl (by decide) ?_
      show Steps p.tables e below (T13.setTop (mkF m 55 #[.val (.int p1), .val (.int p2), .val (.int p3), .val (.int p4), .val (.ref b1), .val (.int (Int32.ofNat s_)), .unset, .unset] [(.int ((p4 &&& (2147483647 : Int32)) % (5 : Int32)))])) _
      rw [ee]
      show Steps p.tables e below (T13.setTop (mkF m 55 #[.val (.int p1), .val (.int p2), .val (.int p3), .val (.int p4), .val (.ref b1), .val (.int (Int32.ofNat s_)), .unset, .unset] [(.int (Int32.ofNat e_))])) _
      refine XS.istore X13.here hx rfl (hb hby at_55) rfl (l' := #[.val (.int p1), .val (.int p2), .val (.int p3), .val (.int p4), .val (.ref b1), .val (.int (Int32.ofNat s_)), .val (.int (Int32.ofNat e_)), .unset]) rfl ?_
      show Steps p.tables e below (T13.setTop (mkF m 57 #[.val (.int p1), .val (.int p2), .val (.int p3), .val (.int p4), .val (.ref b1), .val (.int (Int32.ofNat s_)), .val (.int (Int32.ofNat e_)), .unset] [])) _
      refine XS.aload X13.here hx rfl (hb hby at_57) rfl rfl ?_
      show Steps p.tables e below (T13.setTop (mkF m 59 #[.val (.int p1), .val (.int p2), .val (.int p3), .val (.int p4), .val (.ref b1), .val (.int (Int32.ofNat s_)), .val (.int (Int32.ofNat e_)), .unset] [(.ref b1)])) _
      refine XS.iconst X13.here hx rfl (hb hby at_59) ?_
      show Steps p.tables e below (T13.setTop (mkF m 60 #[.val (.int p1), .val (.int p2), .val (.int p3), .val (.int p4), .val (.ref b1), .val (.int (Int32.ofNat s_)), .val (.int (Int32.ofNat e_)), .unset] [(.int (0 : Int32)), (.ref b1)])) _
      refine X13.caload hx (j := (0 : Int32)) (v := (.int (nar .char (nar .char (p1 &&& (65535 : Int32)))))) (by rw [e13]; exact Ar15.1) (State.isArrayOf_alike hZ.alike Ar15.2.1) Ar15.2.2 hin15 hat15 (g := (mkF m 60 #[.val (.int p1), .val (.int p2), .val (.int p3), .val (.int p4), .val (.ref b1), .val (.int (Int32.ofNat s_)), .val (.int (Int32.ofNat e_)), .unset] [(.int (0 : Int32)), (.ref b1)])) rfl rfl (hb hby at_60) _ ?_
      show Steps p.tables e below (T13.setTop (mkF m 61 #[.val (.int p1), .val (.int p2), .val (.int p3), .val (.int p4), .val (.ref b1), .val (.int (Int32.ofNat s_)), .val (.int (Int32.ofNat e_)), .unset] [(.int (nar .char (nar .char (p1 &&& (65535 : Int32)))))])) _
      refine XS.iconst X13.here hx rfl (hb hby at_61) ?_
      show Steps p.tables e below (T13.setTop (mkF m 62 #[.val (.int p1), .val (.int p2), .val (.int p3), .val (.int p4), .val (.ref b1), .val (.int (Int32.ofNat s_)), .val (.int (Int32.ofNat e_)), .unset] [(.int (0 : Int32)), (.int (nar .char (nar .char (p1 &&& (65535 : Int32)))))])) _
      refine XS.iload X13.here hx rfl (hb hby at_62) rfl ?_
      show Steps p.tables e below (T13.setTop (mkF m 64 #[.val (.int p1), .val (.int p2), .val (.int p3), .val (.int p4), .val (.ref b1), .val (.int (Int32.ofNat s_)), .val (.int (Int32.ofNat e_)), .unset] [(.int (Int32.ofNat s_)), (.int (0 : Int32)), (.int (nar .char (nar .char (p1 &&& (65535 : Int32)))))])) _
      refine XS.iload X13.here hx rfl (hb hby at_64) rfl ?_
      show Steps p.tables e below (T13.setTop (mkF m 66 #[.val (.int p1), .val (.int p2), .val (.int p3), .val (.int p4), .val (.ref b1), .val (.int (Int32.ofNat s_)), .val (.int (Int32.ofNat e_)), .unset] [(.int (Int32.ofNat e_)), (.int (Int32.ofNat s_)), (.int (0 : Int32)), (.int (nar .char (nar .char (p1 &&& (65535 : Int32)))))])) _
      refine st16 _ ?_
      show Steps p.tables e below (T16.setTop (mkF m 69 #[.val (.int p1), .val (.int p2), .val (.int p3), .val (.int p4), .val (.ref b1), .val (.int (Int32.ofNat s_)), .val (.int (Int32.ofNat e_)), .unset] [(.int (own_ok (nar .char (nar .char (p1 &&& (65535 : Int32)))) (0 : Int32) (Int32.ofNat s_) (Int32.ofNat e_)))])) _
      refine XS.ifYes X16.here hx rfl (pc0 := 69) (pc' := 121) rfl (hb hby at_69) rfl ((if0 _ _).trans (teq (ht0 : (own_ok (nar .char (nar .char (p1 &&& (65535 : Int32)))) (0 : Int32) (Int32.ofNat s_) (Int32.ofNat e_)) = (0 : Int32))).1) (by decide) (by decide) ?_
      show Steps p.tables e below (T16.setTop (mkF m 121 #[.val (.int p1), .val (.int p2), .val (.int p3), .val (.int p4), .val (.ref b1), .val (.int (Int32.ofNat s_)), .val (.int (Int32.ofNat e_)), .unset] [])) _
      refine XS.iconst X16.here hx rfl (hb hby at_121) ?_
      show Steps p.tables e below (T16.setTop (mkF m 122 #[.val (.int p1), .val (.int p2), .val (.int p3), .val (.int p4), .val (.ref b1), .val (.int (Int32.ofNat s_)), .val (.int (Int32.ofNat e_)), .unset] [(.int (0 : Int32))])) _
      refine XS.istore X16.here hx rfl (hb hby at_122) rfl (l' := #[.val (.int p1), .val (.int p2), .val (.int p3), .val (.int p4), .val (.ref b1), .val (.int (Int32.ofNat s_)), .val (.int (Int32.ofNat e_)), .val (.int (0 : Int32))]) rfl ?_
      show Steps p.tables e below (T16.setTop (mkF m 124 #[.val (.int p1), .val (.int p2), .val (.int p3), .val (.int p4), .val (.ref b1), .val (.int (Int32.ofNat s_)), .val (.int (Int32.ofNat e_)), .val (.int (0 : Int32))] [])) _
      refine XS.aload X16.here hx rfl (hb hby at_124) rfl rfl ?_
      show Steps p.tables e below (T16.setTop (mkF m 126 #[.val (.int p1), .val (.int p2), .val (.int p3), .val (.int p4), .val (.ref b1), .val (.int (Int32.ofNat s_)), .val (.int (Int32.ofNat e_)), .val (.int (0 : Int32))] [(.ref b1)])) _
      refine XS.iload X16.here hx rfl (hb hby at_126) rfl ?_
      show Steps p.tables e below (T16.setTop (mkF m 128 #[.val (.int p1), .val (.int p2), .val (.int p3), .val (.int p4), .val (.ref b1), .val (.int (Int32.ofNat s_)), .val (.int (Int32.ofNat e_)), .val (.int (0 : Int32))] [(.int (Int32.ofNat s_)), (.ref b1)])) _
      refine XS.iload X16.here hx rfl (hb hby at_128) rfl ?_
      show Steps p.tables e below (T16.setTop (mkF m 130 #[.val (.int p1), .val (.int p2), .val (.int p3), .val (.int p4), .val (.ref b1), .val (.int (Int32.ofNat s_)), .val (.int (Int32.ofNat e_)), .val (.int (0 : Int32))] [(.int (Int32.ofNat e_)), (.int (Int32.ofNat s_)), (.ref b1)])) _
      refine st17 _ ?_
      show Steps p.tables e below (T17.setTop (mkF m 133 #[.val (.int p1), .val (.int p2), .val (.int p3), .val (.int p4), .val (.ref b1), .val (.int (Int32.ofNat s_)), .val (.int (Int32.ofNat e_)), .val (.int (0 : Int32))] [(.int (own_fold (own_f (nar .char (nar .char (p1 &&& (65535 : Int32)))) (nar .char (nar .char (own_xs p1))) (nar .char (nar .char (p2 &&& (65535 : Int32)))) (nar .char (nar .char (own_xs p2)))) (1 : Int32) s_ (e_ - s_)))])) _
      refine XS.iload X17.here hx rfl (hb hby at_133) rfl ?_
      show Steps p.tables e below (T17.setTop (mkF m 135 #[.val (.int p1), .val (.int p2), .val (.int p3), .val (.int p4), .val (.ref b1), .val (.int (Int32.ofNat s_)), .val (.int (Int32.ofNat e_)), .val (.int (0 : Int32))] [(.int (0 : Int32)), (.int (own_fold (own_f (nar .char (nar .char (p1 &&& (65535 : Int32)))) (nar .char (nar .char (own_xs p1))) (nar .char (nar .char (p2 &&& (65535 : Int32)))) (nar .char (nar .char (own_xs p2)))) (1 : Int32) s_ (e_ - s_)))])) _
      refine XS.icmpNo X17.here hx rfl (hb hby at_135) rfl (teq (by rw [own_fin (nar .char (nar .char (p1 &&& (65535 : Int32)))) (nar .char (nar .char (own_xs p1))) (nar .char (nar .char (p2 &&& (65535 : Int32)))) (nar .char (nar .char (own_xs p2))) s_ e_ hs4 he4, own_e, if_pos ht0] : (own_fold (own_f (nar .char (nar .char (p1 &&& (65535 : Int32)))) (nar .char (nar .char (own_xs p1))) (nar .char (nar .char (p2 &&& (65535 : Int32)))) (nar .char (nar .char (own_xs p2)))) (1 : Int32) s_ (e_ - s_)) = (0 : Int32))).2 ?_
      show Steps p.tables e below (T17.setTop (mkF m 138 #[.val (.int p1), .val (.int p2), .val (.int p3), .val (.int p4), .val (.ref b1), .val (.int (Int32.ofNat s_)), .val (.int (Int32.ofNat e_)), .val (.int (0 : Int32))] [])) _
      refine XS.iconst X17.here hx rfl (hb hby at_138) ?_
      show Steps p.tables e below (T17.setTop (mkF m 139 #[.val (.int p1), .val (.int p2), .val (.int p3), .val (.int p4), .val (.ref b1), .val (.int (Int32.ofNat s_)), .val (.int (Int32.ofNat e_)), .val (.int (0 : Int32))] [(.int (1 : Int32))])) _
      refine XS.goto X17.here hx rfl (pc0 := 139) (pc' := 143) rfl (hb hby at_139) (by decide) (by decide) ?_
      show Steps p.tables e below (T17.setTop (mkF m 143 #[.val (.int p1), .val (.int p2), .val (.int p3), .val (.int p4), .val (.ref b1), .val (.int (Int32.ofNat s_)), .val (.int (Int32.ofNat e_)), .val (.int (0 : Int32))] [(.int (1 : Int32))])) _
      exact retN X17 hx (t := .boolean) Bd.returns (by simp) (hb hby at_143) hr
    · show Qrm0 Z p1 p2 p3 p4  h0 n0 _ T17.heap _
      rw [e17]
      exact ⟨rfl, N17⟩
  · obtain ⟨cl17, Ar17, -, S17, M17, Hs17, -⟩ := (id V13)
    have hin17 : ¬ ((1 : Int32) < 0 ∨ cl17.slots.size ≤ ((1 : Int32)).toNatClampNeg) := inb_of S17 ⟨by decide, by decide⟩
    have hat17 : cl17.slots[((1 : Int32)).toNatClampNeg]? = some (.int (nar .char (nar .char (own_xs p1)))) := Has.at Hs17 hin17 rfl
    obtain ⟨_, _, ⟨T18, L18, k18, n18⟩, -, X18, ⟨Lc18, hQ18, l18, y18, z18⟩, st18⟩ := Jvm.LawKit.callS X16 hx (y := (⟨"com/example/tipple/tipple/IdsIsPrintableAsciiPinLaw", "ok", "(CIII)Z"⟩ : MethodName)) hown (mvT hZ (hw _ (List.mem_of_getElem? (i := 3) rfl))) (mvT hZ (hw _ (List.mem_of_getElem? (i := 4) rfl))) (mvT hZ (hw _ (List.mem_of_getElem? (i := 5) rfl))) (mvT hZ (hw _ (List.mem_of_getElem? (i := 6) rfl))) (by decide) (backOf (W := 0) (rm1 l Z a0 hw [] (nar .char (nar .char (own_xs p1))) (1 : Int32) (Int32.ofNat s_) (Int32.ofNat e_)  h13 n0 Z14 ) hZ (hw _ (List.mem_of_getElem? (i := 6) rfl)) (hw _ (List.mem_of_getElem? (i := 5) rfl)) (by decide) (by decide)) (g := (mkF m 81 #[.val (.int p1), .val (.int p2), .val (.int p3), .val (.int p4), .val (.ref b1), .val (.int (Int32.ofNat s_)), .val (.int (Int32.ofNat e_)), .unset] [(.int (Int32.ofNat e_)), (.int (Int32.ofNat s_)), (.int (1 : Int32)), (.int (nar .char (nar .char (own_xs p1))))])) rfl (by rw [hml]; rfl) (argsL := [(.int (nar .char (nar .char (own_xs p1)))), (.int (1 : Int32)), (.int (Int32.ofNat s_)), (.int (Int32.ofNat e_))]) (rest := []) (lenOf pd_0 rfl) rfl (by show 2 * 0 + _ ≤ _; exact Nat.le_of_eq rfl) (hb hby at_81) (fun _ _ => ⟨rfl, e16, (by decide : 1 + 0 ≤ _), (by decide : 4 + 0 ≤ _)⟩)
    dsimp only [Pt.U, Pt.locs, Pt.cells, Pt.slots] at X18 l18 y18 z18 st18 hQ18
    subst l18 y18 z18
    obtain ⟨rfl, N18q, e18⟩ := hQ18
    have N18 := Fr.app N16 N18q
    by_cases ht1 : (own_ok (nar .char (nar .char (own_xs p1))) (1 : Int32) (Int32.ofNat s_) (Int32.ofNat e_)) = (0 : Int32)
    · obtain ⟨_, _, ⟨T19, L19, k19, n19⟩, -, X19, ⟨Lc19, hQ19, l19, y19, z19⟩, st19⟩ := Jvm.LawKit.callS X18 hx (y := (⟨"com/example/tipple/tipple/Ids", "isPrintableAscii", "([CII)Z"⟩ : MethodName)) hown (mvT hZ (hw _ (List.mem_of_getElem? (i := 7) rfl))) (mvT hZ (hw _ (List.mem_of_getElem? (i := 8) rfl))) (mvT hZ (hw _ (List.mem_of_getElem? (i := 9) rfl))) (mvT hZ (hw _ (List.mem_of_getElem? (i := 10) rfl))) (by decide) (backOf (W := 0) (rm2 l Z a0 hw [] b1 s_ e_ k1 (nar .char (nar .char (p1 &&& (65535 : Int32)))) (nar .char (nar .char (own_xs p1))) (nar .char (nar .char (p2 &&& (65535 : Int32)))) (nar .char (nar .char (own_xs p2))) h13 n0 Z14 hs4 he4 V13) hZ (hw _ (List.mem_of_getElem? (i := 10) rfl)) (hw _ (List.mem_of_getElem? (i := 9) rfl)) (by decide) (by decide)) (g := (mkF m 130 #[.val (.int p1), .val (.int p2), .val (.int p3), .val (.int p4), .val (.ref b1), .val (.int (Int32.ofNat s_)), .val (.int (Int32.ofNat e_)), .val (.int (0 : Int32))] [(.int (Int32.ofNat e_)), (.int (Int32.ofNat s_)), (.ref b1)])) rfl (by rw [hml]; rfl) (argsL := [(.ref b1), (.int (Int32.ofNat s_)), (.int (Int32.ofNat e_))]) (rest := []) (lenOf pd_1 rfl) rfl (by show 2 * 0 + _ ≤ _; exact Nat.le_of_eq rfl) (hb hby at_130) (fun _ _ => ⟨rfl, e18, (by decide : 1 + 0 ≤ _), (by decide : 4 + 0 ≤ _)⟩)
      dsimp only [Pt.U, Pt.locs, Pt.cells, Pt.slots] at X19 l19 y19 z19 st19 hQ19
      subst l19 y19 z19
      obtain ⟨rfl, N19q, e19⟩ := hQ19
      have N19 := Fr.app N18 N19q
      obtain ⟨fs, hr, hrun, hended, hW, hsame⟩ := X19.leave (v := some (.int (1 : Int32))) (fun h => by rw [Bd.returns] at h; cases h)
      refine ⟨_, _, pre0 _ ?_, hrun, hended, _, _, rfl, ?_, ⟨_, rfl⟩, hW, hsame.mono (by decide) (by decide)⟩
      · show Steps p.tables e below (s₁.setTop (mkF m 0 #[.val (.int p1), .val (.int p2), .val (.int p3), .val (.int p4), .unset, .unset, .unset, .unset] [])) _
        refine XS.iconst X0.here hx rfl (hb hby at_0) ?_
        show Steps p.tables e below (s₁.setTop (mkF m 1 #[.val (.int p1), .val (.int p2), .val (.int p3), .val (.int p4), .unset, .unset, .unset, .unset] [(.int (4 : Int32))])) _
        refine st1 _ ?_
        show Steps p.tables e below (T1.setTop (mkF m 3 #[.val (.int p1), .val (.int p2), .val (.int p3), .val (.int p4), .unset, .unset, .unset, .unset] [(.ref b1)])) _
        refine XS.astore X1.here hx rfl (hb hby at_3) rfl rfl (l' := #[.val (.int p1), .val (.int p2), .val (.int p3), .val (.int p4), .val (.ref b1), .unset, .unset, .unset]) rfl ?_
        show Steps p.tables e below (T1.setTop (mkF m 5 #[.val (.int p1), .val (.int p2), .val (.int p3), .val (.int p4), .val (.ref b1), .unset, .unset, .unset] [])) _
        refine XS.aload X1.here hx rfl (hb hby at_5) rfl rfl ?_
        show Steps p.tables e below (T1.setTop (mkF m 7 #[.val (.int p1), .val (.int p2), .val (.int p3), .val (.int p4), .val (.ref b1), .unset, .unset, .unset] [(.ref b1)])) _
        refine XS.iconst X1.here hx rfl (hb hby at_7) ?_
        show Steps p.tables e below (T1.setTop (mkF m 8 #[.val (.int p1), .val (.int p2), .val (.int p3), .val (.int p4), .val (.ref b1), .unset, .unset, .unset] [(.int (0 : Int32)), (.ref b1)])) _
        refine XS.iloadN X1.here hx rfl (hb hby at_8) rfl ?_
        show Steps p.tables e below (T1.setTop (mkF m 9 #[.val (.int p1), .val (.int p2), .val (.int p3), .val (.int p4), .val (.ref b1), .unset, .unset, .unset] [(.int p1), (.int (0 : Int32)), (.ref b1)])) _
        refine X1.ldcInt hx hown (mvT hZ (hw _ (List.mem_of_getElem? (i := 1) rfl))) (g := (mkF m 9 #[.val (.int p1), .val (.int p2), .val (.int p3), .val (.int p4), .val (.ref b1), .unset, .unset, .unset] [(.int p1), (.int (0 : Int32)), (.ref b1)])) rfl (hb hby at_9) _ ?_
        show Steps p.tables e below (T1.setTop (mkF m 11 #[.val (.int p1), .val (.int p2), .val (.int p3), .val (.int p4), .val (.ref b1), .unset, .unset, .unset] [(.int (65535 : Int32)), (.int p1), (.int (0 : Int32)), (.ref b1)])) _
        refine XS.iand X1.here hx rfl (hb hby at_11) rfl ?_
        show Steps p.tables e below (T1.setTop (mkF m 12 #[.val (.int p1), .val (.int p2), .val (.int p3), .val (.int p4), .val (.ref b1), .unset, .unset, .unset] [(.int (p1 &&& (65535 : Int32))), (.int (0 : Int32)), (.ref b1)])) _
        refine XS.i2c X1.here hx rfl (hb hby at_12) rfl ?_
        show Steps p.tables e below (T1.setTop (mkF m 13 #[.val (.int p1), .val (.int p2), .val (.int p3), .val (.int p4), .val (.ref b1), .unset, .unset, .unset] [(.int (nar .char (p1 &&& (65535 : Int32)))), (.int (0 : Int32)), (.ref b1)])) _
        refine st4 _ ?_
        show Steps p.tables e below (T4.setTop (mkF m 14 #[.val (.int p1), .val (.int p2), .val (.int p3), .val (.int p4), .val (.ref b1), .unset, .unset, .unset] [])) _
        refine XS.aload X4.here hx rfl (hb hby at_14) rfl rfl ?_
        show Steps p.tables e below (T4.setTop (mkF m 16 #[.val (.int p1), .val (.int p2), .val (.int p3), .val (.int p4), .val (.ref b1), .unset, .unset, .unset] [(.ref b1)])) _
        refine XS.iconst X4.here hx rfl (hb hby at_16) ?_
        show Steps p.tables e below (T4.setTop (mkF m 17 #[.val (.int p1), .val (.int p2), .val (.int p3), .val (.int p4), .val (.ref b1), .unset, .unset, .unset] [(.int (1 : Int32)), (.ref b1)])) _
        refine XS.iloadN X4.here hx rfl (hb hby at_17) rfl ?_
        show Steps p.tables e below (T4.setTop (mkF m 18 #[.val (.int p1), .val (.int p2), .val (.int p3), .val (.int p4), .val (.ref b1), .unset, .unset, .unset] [(.int p1), (.int (1 : Int32)), (.ref b1)])) _
        refine XS.bipush X4.here hx rfl (hb hby at_18) ?_
        show Steps p.tables e below (T4.setTop (mkF m 20 #[.val (.int p1), .val (.int p2), .val (.int p3), .val (.int p4), .val (.ref b1), .unset, .unset, .unset] [(.int (16 : Int32)), (.int p1), (.int (1 : Int32)), (.ref b1)])) _
        refine XS.iushr X4.here hx rfl (hb hby at_20) rfl ?_
        show Steps p.tables e below (T4.setTop (mkF m 21 #[.val (.int p1), .val (.int p2), .val (.int p3), .val (.int p4), .val (.ref b1), .unset, .unset, .unset] [(.int (own_xs p1)), (.int (1 : Int32)), (.ref b1)])) _
        refine XS.i2c X4.here hx rfl (hb hby at_21) rfl ?_
        show Steps p.tables e below (T4.setTop (mkF m 22 #[.val (.int p1), .val (.int p2), .val (.int p3), .val (.int p4), .val (.ref b1), .unset, .unset, .unset] [(.int (nar .char (own_xs p1))), (.int (1 : Int32)), (.ref b1)])) _
        refine st7 _ ?_
        show Steps p.tables e below (T7.setTop (mkF m 23 #[.val (.int p1), .val (.int p2), .val (.int p3), .val (.int p4), .val (.ref b1), .unset, .unset, .unset] [])) _
        refine XS.aload X7.here hx rfl (hb hby at_23) rfl rfl ?_
        show Steps p.tables e below (T7.setTop (mkF m 25 #[.val (.int p1), .val (.int p2), .val (.int p3), .val (.int p4), .val (.ref b1), .unset, .unset, .unset] [(.ref b1)])) _
        refine XS.iconst X7.here hx rfl (hb hby at_25) ?_
        show Steps p.tables e below (T7.setTop (mkF m 26 #[.val (.int p1), .val (.int p2), .val (.int p3), .val (.int p4), .val (.ref b1), .unset, .unset, .unset] [(.int (2 : Int32)), (.ref b1)])) _
        refine XS.iloadN X7.here hx rfl (hb hby at_26) rfl ?_
        show Steps p.tables e below (T7.setTop (mkF m 27 #[.val (.int p1), .val (.int p2), .val (.int p3), .val (.int p4), .val (.ref b1), .unset, .unset, .unset] [(.int p2), (.int (2 : Int32)), (.ref b1)])) _
        refine X7.ldcInt hx hown (mvT hZ (hw _ (List.mem_of_getElem? (i := 1) rfl))) (g := (mkF m 27 #[.val (.int p1), .val (.int p2), .val (.int p3), .val (.int p4), .val (.ref b1), .unset, .unset, .unset] [(.int p2), (.int (2 : Int32)), (.ref b1)])) rfl (hb hby at_27) _ ?_
        show Steps p.tables e below (T7.setTop (mkF m 29 #[.val (.int p1), .val (.int p2), .val (.int p3), .val (.int p4), .val (.ref b1), .unset, .unset, .unset] [(.int (65535 : Int32)), (.int p2), (.int (2 : Int32)), (.ref b1)])) _
        refine XS.iand X7.here hx rfl (hb hby at_29) rfl ?_
        show Steps p.tables e below (T7.setTop (mkF m 30 #[.val (.int p1), .val (.int p2), .val (.int p3), .val (.int p4), .val (.ref b1), .unset, .unset, .unset] [(.int (p2 &&& (65535 : Int32))), (.int (2 : Int32)), (.ref b1)])) _
        refine XS.i2c X7.here hx rfl (hb hby at_30) rfl ?_
        show Steps p.tables e below (T7.setTop (mkF m 31 #[.val (.int p1), .val (.int p2), .val (.int p3), .val (.int p4), .val (.ref b1), .unset, .unset, .unset] [(.int (nar .char (p2 &&& (65535 : Int32)))), (.int (2 : Int32)), (.ref b1)])) _
        refine st10 _ ?_
        show Steps p.tables e below (T10.setTop (mkF m 32 #[.val (.int p1), .val (.int p2), .val (.int p3), .val (.int p4), .val (.ref b1), .unset, .unset, .unset] [])) _
        refine XS.aload X10.here hx rfl (hb hby at_32) rfl rfl ?_
        show Steps p.tables e below (T10.setTop (mkF m 34 #[.val (.int p1), .val (.int p2), .val (.int p3), .val (.int p4), .val (.ref b1), .unset, .unset, .unset] [(.ref b1)])) _
        refine XS.iconst X10.here hx rfl (hb hby at_34) ?_
        show Steps p.tables e below (T10.setTop (mkF m 35 #[.val (.int p1), .val (.int p2), .val (.int p3), .val (.int p4), .val (.ref b1), .unset, .unset, .unset] [(.int (3 : Int32)), (.ref b1)])) _
        refine XS.iloadN X10.here hx rfl (hb hby at_35) rfl ?_
        show Steps p.tables e below (T10.setTop (mkF m 36 #[.val (.int p1), .val (.int p2), .val (.int p3), .val (.int p4), .val (.ref b1), .unset, .unset, .unset] [(.int p2), (.int (3 : Int32)), (.ref b1)])) _
        refine XS.bipush X10.here hx rfl (hb hby at_36) ?_
        show Steps p.tables e below (T10.setTop (mkF m 38 #[.val (.int p1), .val (.int p2), .val (.int p3), .val (.int p4), .val (.ref b1), .unset, .unset, .unset] [(.int (16 : Int32)), (.int p2), (.int (3 : Int32)), (.ref b1)])) _
        refine XS.iushr X10.here hx rfl (hb hby at_38) rfl ?_
        show Steps p.tables e below (T10.setTop (mkF m 39 #[.val (.int p1), .val (.int p2), .val (.int p3), .val (.int p4), .val (.ref b1), .unset, .unset, .unset] [(.int (own_xs p2)), (.int (3 : Int32)), (.ref b1)])) _
        refine XS.i2c X10.here hx rfl (hb hby at_39) rfl ?_
        show Steps p.tables e below (T10.setTop (mkF m 40 #[.val (.int p1), .val (.int p2), .val (.int p3), .val (.int p4), .val (.ref b1), .unset, .unset, .unset] [(.int (nar .char (own_xs p2))), (.int (3 : Int32)), (.ref b1)])) _
        refine st13 _ ?_
        show Steps p.tables e below (T13.setTop (mkF m 41 #[.val (.int p1), .val (.int p2), .val (.int p3), .val (.int p4), .val (.ref b1), .unset, .unset, .unset] [])) _
        refine XS.iloadN X13.here hx rfl (hb hby at_41) rfl ?_
        show Steps p.tables e below (T13.setTop (mkF m 42 #[.val (.int p1), .val (.int p2), .val (.int p3), .val (.int p4), .val (.ref b1), .unset, .unset, .unset] [(.int p3)])) _
        refine X13.ldcInt hx hown (mvT hZ (hw _ (List.mem_of_getElem? (i := 2) rfl))) (g := (mkF m 42 #[.val (.int p1), .val (.int p2), .val (.int p3), .val (.int p4), .val (.ref b1), .unset, .unset, .unset] [(.int p3)])) rfl (hb hby at_42) _ ?_
        show Steps p.tables e below (T13.setTop (mkF m 44 #[.val (.int p1), .val (.int p2), .val (.int p3), .val (.int p4), .val (.ref b1), .unset, .unset, .unset] [(.int (2147483647 : Int32)), (.int p3)])) _
        refine XS.iand X13.here hx rfl (hb hby at_44) rfl ?_
        show Steps p.tables e below (T13.setTop (mkF m 45 #[.val (.int p1), .val (.int p2), .val (.int p3), .val (.int p4), .val (.ref b1), .unset, .unset, .unset] [(.int (p3 &&& (2147483647 : Int32)))])) _
        refine XS.iconst X13.here hx rfl (hb hby at_45) ?_
        show Steps p.tables e below (T13.setTop (mkF m 46 #[.val (.int p1), .val (.int p2), .val (.int p3), .val (.int p4), .val (.ref b1), .unset, .unset, .unset] [(.int (5 : Int32)), (.int (p3 &&& (2147483647 : Int32)))])) _
        refine iremM X13 hx rfl (hb hby at_46) rfl (by decide) ?_
        show Steps p.tables e below (T13.setTop (mkF m 47 #[.val (.int p1), .val (.int p2), .val (.int p3), .val (.int p4), .val (.ref b1), .unset, .unset, .unset] [(.int ((p3 &&& (2147483647 : Int32)) % (5 : Int32)))])) _
        rw [es]
        show Steps p.tables e below (T13.setTop (mkF m 47 #[.val (.int p1), .val (.int p2), .val (.int p3), .val (.int p4), .val (.ref b1), .unset, .unset, .unset] [(.int (Int32.ofNat s_))])) _
        refine XS.istore X13.here hx rfl (hb hby at_47) rfl (l' := #[.val (.int p1), .val (.int p2), .val (.int p3), .val (.int p4), .val (.ref b1), .val (.int (Int32.ofNat s_)), .unset, .unset]) rfl ?_
        show Steps p.tables e below (T13.setTop (mkF m 49 #[.val (.int p1), .val (.int p2), .val (.int p3), .val (.int p4), .val (.ref b1), .val (.int (Int32.ofNat s_)), .unset, .unset] [])) _
        refine XS.iloadN X13.here hx rfl (hb hby at_49) rfl ?_
        show Steps p.tables e below (T13.setTop (mkF m 50 #[.val (.int p1), .val (.int p2), .val (.int p3), .val (.int p4), .val (.ref b1), .val (.int (Int32.ofNat s_)), .unset, .unset] [(.int p4)])) _
        refine X13.ldcInt hx hown (mvT hZ (hw _ (List.mem_of_getElem? (i := 2) rfl))) (g := (mkF m 50 #[.val (.int p1), .val (.int p2), .val (.int p3), .val (.int p4), .val (.ref b1), .val (.int (Int32.ofNat s_)), .unset, .unset] [(.int p4)])) rfl (hb hby at_50) _ ?_
        show Steps p.tables e below (T13.setTop (mkF m 52 #[.val (.int p1), .val (.int p2), .val (.int p3), .val (.int p4), .val (.ref b1), .val (.int (Int32.ofNat s_)), .unset, .unset] [(.int (2147483647 : Int32)), (.int p4)])) _
        refine XS.iand X13.here hx rfl (hb hby at_52) rfl ?_
        show Steps p.tables e below (T13.setTop (mkF m 53 #[.val (.int p1), .val (.int p2), .val (.int p3), .val (.int p4), .val (.ref b1), .val (.int (Int32.ofNat s_)), .unset, .unset] [(.int (p4 &&& (2147483647 : Int32)))])) _
        refine XS.iconst X13.here hx rfl (hb hby at_53) ?_
        show Steps p.tables e below (T13.setTop (mkF m 54 #[.val (.int p1), .val (.int p2), .val (.int p3), .val (.int p4), .val (.ref b1), .val (.int (Int32.ofNat s_)), .unset, .unset] [(.int (5 : Int32)), (.int (p4 &&& (2147483647 : Int32)))])) _
        refine iremM X13 hx rfl (hb hby at_54) rfl (by decide) ?_
        show Steps p.tables e below (T13.setTop (mkF m 55 #[.val (.int p1), .val (.int p2), .val (.int p3), .val (.int p4), .val (.ref b1), .val (.int (Int32.ofNat s_)), .unset, .unset] [(.int ((p4 &&& (2147483647 : Int32)) % (5 : Int32)))])) _
        rw [ee]
        show Steps p.tables e below (T13.setTop (mkF m 55 #[.val (.int p1), .val (.int p2), .val (.int p3), .val (.int p4), .val (.ref b1), .val (.int (Int32.ofNat s_)), .unset, .unset] [(.int (Int32.ofNat e_))])) _
        refine XS.istore X13.here hx rfl (hb hby at_55) rfl (l' := #[.val (.int p1), .val (.int p2), .val (.int p3), .val (.int p4), .val (.ref b1), .val (.int (Int32.ofNat s_)), .val (.int (Int32.ofNat e_)), .unset]) rfl ?_
        show Steps p.tables e below (T13.setTop (mkF m 57 #[.val (.int p1), .val (.int p2), .val (.int p3), .val (.int p4), .val (.ref b1), .val (.int (Int32.ofNat s_)), .val (.int (Int32.ofNat e_)), .unset] [])) _
        refine XS.aload X13.here hx rfl (hb hby at_57) rfl rfl ?_
        show Steps p.tables e below (T13.setTop (mkF m 59 #[.val (.int p1), .val (.int p2), .val (.int p3), .val (.int p4), .val (.ref b1), .val (.int (Int32.ofNat s_)), .val (.int (Int32.ofNat e_)), .unset] [(.ref b1)])) _
        refine XS.iconst X13.here hx rfl (hb hby at_59) ?_
        show Steps p.tables e below (T13.setTop (mkF m 60 #[.val (.int p1), .val (.int p2), .val (.int p3), .val (.int p4), .val (.ref b1), .val (.int (Int32.ofNat s_)), .val (.int (Int32.ofNat e_)), .unset] [(.int (0 : Int32)), (.ref b1)])) _
        refine X13.caload hx (j := (0 : Int32)) (v := (.int (nar .char (nar .char (p1 &&& (65535 : Int32)))))) (by rw [e13]; exact Ar15.1) (State.isArrayOf_alike hZ.alike Ar15.2.1) Ar15.2.2 hin15 hat15 (g := (mkF m 60 #[.val (.int p1), .val (.int p2), .val (.int p3), .val (.int p4), .val (.ref b1), .val (.int (Int32.ofNat s_)), .val (.int (Int32.ofNat e_)), .unset] [(.int (0 : Int32)), (.ref b1)])) rfl rfl (hb hby at_60) _ ?_
        show Steps p.tables e below (T13.setTop (mkF m 61 #[.val (.int p1), .val (.int p2), .val (.int p3), .val (.int p4), .val (.ref b1), .val (.int (Int32.ofNat s_)), .val (.int (Int32.ofNat e_)), .unset] [(.int (nar .char (nar .char (p1 &&& (65535 : Int32)))))])) _
        refine XS.iconst X13.here hx rfl (hb hby at_61) ?_
        show Steps p.tables e below (T13.setTop (mkF m 62 #[.val (.int p1), .val (.int p2), .val (.int p3), .val (.int p4), .val (.ref b1), .val (.int (Int32.ofNat s_)), .val (.int (Int32.ofNat e_)), .unset] [(.int (0 : Int32)), (.int (nar .char (nar .char (p1 &&& (65535 : Int32)))))])) _
        refine XS.iload X13.here hx rfl (hb hby at_62) rfl ?_
        show Steps p.tables e below (T13.setTop (mkF m 64 #[.val (.int p1), .val (.int p2), .val (.int p3), .val (.int p4), .val (.ref b1), .val (.int (Int32.ofNat s_)), .val (.int (Int32.ofNat e_)), .unset] [(.int (Int32.ofNat s_)), (.int (0 : Int32)), (.int (nar .char (nar .char (p1 &&& (65535 : Int32)))))])) _
        refine XS.iload X13.here hx rfl (hb hby at_64) rfl ?_
        show Steps p.tables e below (T13.setTop (mkF m 66 #[.val (.int p1), .val (.int p2), .val (.int p3), .val (.int p4), .val (.ref b1), .val (.int (Int32.ofNat s_)), .val (.int (Int32.ofNat e_)), .unset] [(.int (Int32.ofNat e_)), (.int (Int32.ofNat s_)), (.int (0 : Int32)), (.int (nar .char (nar .char (p1 &&& (65535 : Int32)))))])) _
        refine st16 _ ?_
        show Steps p.tables e below (T16.setTop (mkF m 69 #[.val (.int p1), .val (.int p2), .val (.int p3), .val (.int p4), .val (.ref b1), .val (.int (Int32.ofNat s_)), .val (.int (Int32.ofNat e_)), .unset] [(.int (own_ok (nar .char (nar .char (p1 &&& (65535 : Int32)))) (0 : Int32) (Int32.ofNat s_) (Int32.ofNat e_)))])) _
        refine XS.ifNo X16.here hx rfl (hb hby at_69) rfl ((if0 _ _).trans (feq (ht0 : ¬ ((own_ok (nar .char (nar .char (p1 &&& (65535 : Int32)))) (0 : Int32) (Int32.ofNat s_) (Int32.ofNat e_)) = (0 : Int32)))).1) ?_
        show Steps p.tables e below (T16.setTop (mkF m 72 #[.val (.int p1), .val (.int p2), .val (.int p3), .val (.int p4), .val (.ref b1), .val (.int (Int32.ofNat s_)), .val (.int (Int32.ofNat e_)), .unset] [])) _
        refine XS.aload X16.here hx rfl (hb hby at_72) rfl rfl ?_
        show Steps p.tables e below (T16.setTop (mkF m 74 #[.val (.int p1), .val (.int p2), .val (.int p3), .val (.int p4), .val (.ref b1), .val (.int (Int32.ofNat s_)), .val (.int (Int32.ofNat e_)), .unset] [(.ref b1)])) _
        refine XS.iconst X16.here hx rfl (hb hby at_74) ?_
        show Steps p.tables e below (T16.setTop (mkF m 75 #[.val (.int p1), .val (.int p2), .val (.int p3), .val (.int p4), .val (.ref b1), .val (.int (Int32.ofNat s_)), .val (.int (Int32.ofNat e_)), .unset] [(.int (1 : Int32)), (.ref b1)])) _
        refine X16.caload hx (j := (1 : Int32)) (v := (.int (nar .char (nar .char (own_xs p1))))) (by rw [e16]; exact Ar17.1) (State.isArrayOf_alike hZ.alike Ar17.2.1) Ar17.2.2 hin17 hat17 (g := (mkF m 75 #[.val (.int p1), .val (.int p2), .val (.int p3), .val (.int p4), .val (.ref b1), .val (.int (Int32.ofNat s_)), .val (.int (Int32.ofNat e_)), .unset] [(.int (1 : Int32)), (.ref b1)])) rfl rfl (hb hby at_75) _ ?_
        show Steps p.tables e below (T16.setTop (mkF m 76 #[.val (.int p1), .val (.int p2), .val (.int p3), .val (.int p4), .val (.ref b1), .val (.int (Int32.ofNat s_)), .val (.int (Int32.ofNat e_)), .unset] [(.int (nar .char (nar .char (own_xs p1))))])) _
        refine XS.iconst X16.here hx rfl (hb hby at_76) ?_
        show Steps p.tables e below (T16.setTop (mkF m 77 #[.val (.int p1), .val (.int p2), .val (.int p3), .val (.int p4), .val (.ref b1), .val (.int (Int32.ofNat s_)), .val (.int (Int32.ofNat e_)), .unset] [(.int (1 : Int32)), (.int (nar .char (nar .char (own_xs p1))))])) _
        refine XS.iload X16.here hx rfl (hb hby at_77) rfl ?_
        show Steps p.tables e below (T16.setTop (mkF m 79 #[.val (.int p1), .val (.int p2), .val (.int p3), .val (.int p4), .val (.ref b1), .val (.int (Int32.ofNat s_)), .val (.int (Int32.ofNat e_)), .unset] [(.int (Int32.ofNat s_)), (.int (1 : Int32)), (.int (nar .char (nar .char (own_xs p1))))])) _
        refine XS.iload X16.here hx rfl (hb hby at_79) rfl ?_
        show Steps p.tables e below (T16.setTop (mkF m 81 #[.val (.int p1), .val (.int p2), .val (.int p3), .val (.int p4), .val (.ref b1), .val (.int (Int32.ofNat s_)), .val (.int (Int32.ofNat e_)), .unset] [(.int (Int32.ofNat e_)), (.int (Int32.ofNat s_)), (.int (1 : Int32)), (.int (nar .char (nar .char (own_xs p1))))])) _
        refine st18 _ ?_
        show Steps p.tables e below (T18.setTop (mkF m 84 #[.val (.int p1), .val (.int p2), .val (.int p3), .val (.int p4), .val (.ref b1), .val (.int (Int32.ofNat s_)), .val (.int (Int32.ofNat e_)), .unset] [(.int (own_ok (nar .char (nar .char (own_xs p1))) (1 : Int32) (Int32.ofNat s_) (Int32.ofNat e_)))])) _
        refine XS.ifYes X18.here hx rfl (pc0 := 84) (pc' := 121) rfl (hb hby at_84) rfl ((if0 _ _).trans (teq (ht1 : (own_ok (nar .char (nar .char (own_xs p1))) (1 : Int32) (Int32.ofNat s_) (Int32.ofNat e_)) = (0 : Int32))).1) (by decide) (by decide) ?_
        show Steps p.tables e below (T18.setTop (mkF m 121 #[.val (.int p1), .val (.int p2), .val (.int p3), .val (.int p4), .val (.ref b1), .val (.int (Int32.ofNat s_)), .val (.int (Int32.ofNat e_)), .unset] [])) _
        refine XS.iconst X18.here hx rfl (hb hby at_121) ?_
        show Steps p.tables e below (T18.setTop (mkF m 122 #[.val (.int p1), .val (.int p2), .val (.int p3), .val (.int p4), .val (.ref b1), .val (.int (Int32.ofNat s_)), .val (.int (Int32.ofNat e_)), .unset] [(.int (0 : Int32))])) _
        refine XS.istore X18.here hx rfl (hb hby at_122) rfl (l' := #[.val (.int p1), .val (.int p2), .val (.int p3), .val (.int p4), .val (.ref b1), .val (.int (Int32.ofNat s_)), .val (.int (Int32.ofNat e_)), .val (.int (0 : Int32))]) rfl ?_
        show Steps p.tables e below (T18.setTop (mkF m 124 #[.val (.int p1), .val (.int p2), .val (.int p3), .val (.int p4), .val (.ref b1), .val (.int (Int32.ofNat s_)), .val (.int (Int32.ofNat e_)), .val (.int (0 : Int32))] [])) _
        refine XS.aload X18.here hx rfl (hb hby at_124) rfl rfl ?_
        show Steps p.tables e below (T18.setTop (mkF m 126 #[.val (.int p1), .val (.int p2), .val (.int p3), .val (.int p4), .val (.ref b1), .val (.int (Int32.ofNat s_)), .val (.int (Int32.ofNat e_)), .val (.int (0 : Int32))] [(.ref b1)])) _
        refine XS.iload X18.here hx rfl (hb hby at_126) rfl ?_
        show Steps p.tables e below (T18.setTop (mkF m 128 #[.val (.int p1), .val (.int p2), .val (.int p3), .val (.int p4), .val (.ref b1), .val (.int (Int32.ofNat s_)), .val (.int (Int32.ofNat e_)), .val (.int (0 : Int32))] [(.int (Int32.ofNat s_)), (.ref b1)])) _
        refine XS.iload X18.here hx rfl (hb hby at_128) rfl ?_
        show Steps p.tables e below (T18.setTop (mkF m 130 #[.val (.int p1), .val (.int p2), .val (.int p3), .val (.int p4), .val (.ref b1), .val (.int (Int32.ofNat s_)), .val (.int (Int32.ofNat e_)), .val (.int (0 : Int32))] [(.int (Int32.ofNat e_)), (.int (Int32.ofNat s_)), (.ref b1)])) _
        refine st19 _ ?_
        show Steps p.tables e below (T19.setTop (mkF m 133 #[.val (.int p1), .val (.int p2), .val (.int p3), .val (.int p4), .val (.ref b1), .val (.int (Int32.ofNat s_)), .val (.int (Int32.ofNat e_)), .val (.int (0 : Int32))] [(.int (own_fold (own_f (nar .char (nar .char (p1 &&& (65535 : Int32)))) (nar .char (nar .char (own_xs p1))) (nar .char (nar .char (p2 &&& (65535 : Int32)))) (nar .char (nar .char (own_xs p2)))) (1 : Int32) s_ (e_ - s_)))])) _
        refine XS.iload X19.here hx rfl (hb hby at_133) rfl ?_
        show Steps p.tables e below (T19.setTop (mkF m 135 #[.val (.int p1), .val (.int p2), .val (.int p3), .val (.int p4), .val (.ref b1), .val (.int (Int32.ofNat s_)), .val (.int (Int32.ofNat e_)), .val (.int (0 : Int32))] [(.int (0 : Int32)), (.int (own_fold (own_f (nar .char (nar .char (p1 &&& (65535 : Int32)))) (nar .char (nar .char (own_xs p1))) (nar .char (nar .char (p2 &&& (65535 : Int32)))) (nar .char (nar .char (own_xs p2)))) (1 : Int32) s_ (e_ - s_)))])) _
        refine XS.icmpNo X19.here hx rfl (hb hby at_135) rfl (teq (by rw [own_fin (nar .char (nar .char (p1 &&& (65535 : Int32)))) (nar .char (nar .char (own_xs p1))) (nar .char (nar .char (p2 &&& (65535 : Int32)))) (nar .char (nar .char (own_xs p2))) s_ e_ hs4 he4, own_e, if_neg ht0, if_pos ht1] : (own_fold (own_f (nar .char (nar .char (p1 &&& (65535 : Int32)))) (nar .char (nar .char (own_xs p1))) (nar .char (nar .char (p2 &&& (65535 : Int32)))) (nar .char (nar .char (own_xs p2)))) (1 : Int32) s_ (e_ - s_)) = (0 : Int32))).2 ?_
        show Steps p.tables e below (T19.setTop (mkF m 138 #[.val (.int p1), .val (.int p2), .val (.int p3), .val (.int p4), .val (.ref b1), .val (.int (Int32.ofNat s_)), .val (.int (Int32.ofNat e_)), .val (.int (0 : Int32))] [])) _
        refine XS.iconst X19.here hx rfl (hb hby at_138) ?_
        show Steps p.tables e below (T19.setTop (mkF m 139 #[.val (.int p1), .val (.int p2), .val (.int p3), .val (.int p4), .val (.ref b1), .val (.int (Int32.ofNat s_)), .val (.int (Int32.ofNat e_)), .val (.int (0 : Int32))] [(.int (1 : Int32))])) _
        refine XS.goto X19.here hx rfl (pc0 := 139) (pc' := 143) rfl (hb hby at_139) (by decide) (by decide) ?_
        show Steps p.tables e below (T19.setTop (mkF m 143 #[.val (.int p1), .val (.int p2), .val (.int p3), .val (.int p4), .val (.ref b1), .val (.int (Int32.ofNat s_)), .val (.int (Int32.ofNat e_)), .val (.int (0 : Int32))] [(.int (1 : Int32))])) _
        exact retN X19 hx (t := .boolean) Bd.returns (by simp) (hb hby at_143) hr
      · show Qrm0 Z p1 p2 p3 p4  h0 n0 _ T19.heap _
        rw [e19]
        exact ⟨rfl, N19⟩
    · obtain ⟨cl19, Ar19, -, S19, M19, Hs19, -⟩ := (id V13)
      have hin19 : ¬ ((2 : Int32) < 0 ∨ cl19.slots.size ≤ ((2 : Int32)).toNatClampNeg) := inb_of S19 ⟨by decide, by decide⟩
      have hat19 : cl19.slots[((2 : Int32)).toNatClampNeg]? = some (.int (nar .char (nar .char (p2 &&& (65535 : Int32))))) := Has.at Hs19 hin19 rfl
      obtain ⟨_, _, ⟨T20, L20, k20, n20⟩, -, X20, ⟨Lc20, hQ20, l20, y20, z20⟩, st20⟩ := Jvm.LawKit.callS X18 hx (y := (⟨"com/example/tipple/tipple/IdsIsPrintableAsciiPinLaw", "ok", "(CIII)Z"⟩ : MethodName)) hown (mvT hZ (hw _ (List.mem_of_getElem? (i := 3) rfl))) (mvT hZ (hw _ (List.mem_of_getElem? (i := 4) rfl))) (mvT hZ (hw _ (List.mem_of_getElem? (i := 5) rfl))) (mvT hZ (hw _ (List.mem_of_getElem? (i := 6) rfl))) (by decide) (backOf (W := 0) (rm1 l Z a0 hw [] (nar .char (nar .char (p2 &&& (65535 : Int32)))) (2 : Int32) (Int32.ofNat s_) (Int32.ofNat e_)  h13 n0 Z14 ) hZ (hw _ (List.mem_of_getElem? (i := 6) rfl)) (hw _ (List.mem_of_getElem? (i := 5) rfl)) (by decide) (by decide)) (g := (mkF m 96 #[.val (.int p1), .val (.int p2), .val (.int p3), .val (.int p4), .val (.ref b1), .val (.int (Int32.ofNat s_)), .val (.int (Int32.ofNat e_)), .unset] [(.int (Int32.ofNat e_)), (.int (Int32.ofNat s_)), (.int (2 : Int32)), (.int (nar .char (nar .char (p2 &&& (65535 : Int32)))))])) rfl (by rw [hml]; rfl) (argsL := [(.int (nar .char (nar .char (p2 &&& (65535 : Int32))))), (.int (2 : Int32)), (.int (Int32.ofNat s_)), (.int (Int32.ofNat e_))]) (rest := []) (lenOf pd_0 rfl) rfl (by show 2 * 0 + _ ≤ _; exact Nat.le_of_eq rfl) (hb hby at_96) (fun _ _ => ⟨rfl, e18, (by decide : 1 + 0 ≤ _), (by decide : 4 + 0 ≤ _)⟩)
      dsimp only [Pt.U, Pt.locs, Pt.cells, Pt.slots] at X20 l20 y20 z20 st20 hQ20
      subst l20 y20 z20
      obtain ⟨rfl, N20q, e20⟩ := hQ20
      have N20 := Fr.app N18 N20q
      by_cases ht2 : (own_ok (nar .char (nar .char (p2 &&& (65535 : Int32)))) (2 : Int32) (Int32.ofNat s_) (Int32.ofNat e_)) = (0 : Int32)
      · obtain ⟨_, _, ⟨T21, L21, k21, n21⟩, -, X21, ⟨Lc21, hQ21, l21, y21, z21⟩, st21⟩ := Jvm.LawKit.callS X20 hx (y := (⟨"com/example/tipple/tipple/Ids", "isPrintableAscii", "([CII)Z"⟩ : MethodName)) hown (mvT hZ (hw _ (List.mem_of_getElem? (i := 7) rfl))) (mvT hZ (hw _ (List.mem_of_getElem? (i := 8) rfl))) (mvT hZ (hw _ (List.mem_of_getElem? (i := 9) rfl))) (mvT hZ (hw _ (List.mem_of_getElem? (i := 10) rfl))) (by decide) (backOf (W := 0) (rm2 l Z a0 hw [] b1 s_ e_ k1 (nar .char (nar .char (p1 &&& (65535 : Int32)))) (nar .char (nar .char (own_xs p1))) (nar .char (nar .char (p2 &&& (65535 : Int32)))) (nar .char (nar .char (own_xs p2))) h13 n0 Z14 hs4 he4 V13) hZ (hw _ (List.mem_of_getElem? (i := 10) rfl)) (hw _ (List.mem_of_getElem? (i := 9) rfl)) (by decide) (by decide)) (g := (mkF m 130 #[.val (.int p1), .val (.int p2), .val (.int p3), .val (.int p4), .val (.ref b1), .val (.int (Int32.ofNat s_)), .val (.int (Int32.ofNat e_)), .val (.int (0 : Int32))] [(.int (Int32.ofNat e_)), (.int (Int32.ofNat s_)), (.ref b1)])) rfl (by rw [hml]; rfl) (argsL := [(.ref b1), (.int (Int32.ofNat s_)), (.int (Int32.ofNat e_))]) (rest := []) (lenOf pd_1 rfl) rfl (by show 2 * 0 + _ ≤ _; exact Nat.le_of_eq rfl) (hb hby at_130) (fun _ _ => ⟨rfl, e20, (by decide : 1 + 0 ≤ _), (by decide : 4 + 0 ≤ _)⟩)
        dsimp only [Pt.U, Pt.locs, Pt.cells, Pt.slots] at X21 l21 y21 z21 st21 hQ21
        subst l21 y21 z21
        obtain ⟨rfl, N21q, e21⟩ := hQ21
        have N21 := Fr.app N20 N21q
        obtain ⟨fs, hr, hrun, hended, hW, hsame⟩ := X21.leave (v := some (.int (1 : Int32))) (fun h => by rw [Bd.returns] at h; cases h)
        refine ⟨_, _, pre0 _ ?_, hrun, hended, _, _, rfl, ?_, ⟨_, rfl⟩, hW, hsame.mono (by decide) (by decide)⟩
        · show Steps p.tables e below (s₁.setTop (mkF m 0 #[.val (.int p1), .val (.int p2), .val (.int p3), .val (.int p4), .unset, .unset, .unset, .unset] [])) _
          refine XS.iconst X0.here hx rfl (hb hby at_0) ?_
          show Steps p.tables e below (s₁.setTop (mkF m 1 #[.val (.int p1), .val (.int p2), .val (.int p3), .val (.int p4), .unset, .unset, .unset, .unset] [(.int (4 : Int32))])) _
          refine st1 _ ?_
          show Steps p.tables e below (T1.setTop (mkF m 3 #[.val (.int p1), .val (.int p2), .val (.int p3), .val (.int p4), .unset, .unset, .unset, .unset] [(.ref b1)])) _
          refine XS.astore X1.here hx rfl (hb hby at_3) rfl rfl (l' := #[.val (.int p1), .val (.int p2), .val (.int p3), .val (.int p4), .val (.ref b1), .unset, .unset, .unset]) rfl ?_
          show Steps p.tables e below (T1.setTop (mkF m 5 #[.val (.int p1), .val (.int p2), .val (.int p3), .val (.int p4), .val (.ref b1), .unset, .unset, .unset] [])) _
          refine XS.aload X1.here hx rfl (hb hby at_5) rfl rfl ?_
          show Steps p.tables e below (T1.setTop (mkF m 7 #[.val (.int p1), .val (.int p2), .val (.int p3), .val (.int p4), .val (.ref b1), .unset, .unset, .unset] [(.ref b1)])) _
          refine XS.iconst X1.here hx rfl (hb hby at_7) ?_
          show Steps p.tables e below (T1.setTop (mkF m 8 #[.val (.int p1), .val (.int p2), .val (.int p3), .val (.int p4), .val (.ref b1), .unset, .unset, .unset] [(.int (0 : Int32)), (.ref b1)])) _
          refine XS.iloadN X1.here hx rfl (hb hby at_8) rfl ?_
          show Steps p.tables e below (T1.setTop (mkF m 9 #[.val (.int p1), .val (.int p2), .val (.int p3), .val (.int p4), .val (.ref b1), .unset, .unset, .unset] [(.int p1), (.int (0 : Int32)), (.ref b1)])) _
          refine X1.ldcInt hx hown (mvT hZ (hw _ (List.mem_of_getElem? (i := 1) rfl))) (g := (mkF m 9 #[.val (.int p1), .val (.int p2), .val (.int p3), .val (.int p4), .val (.ref b1), .unset, .unset, .unset] [(.int p1), (.int (0 : Int32)), (.ref b1)])) rfl (hb hby at_9) _ ?_
          show Steps p.tables e below (T1.setTop (mkF m 11 #[.val (.int p1), .val (.int p2), .val (.int p3), .val (.int p4), .val (.ref b1), .unset, .unset, .unset] [(.int (65535 : Int32)), (.int p1), (.int (0 : Int32)), (.ref b1)])) _
          refine XS.iand X1.here hx rfl (hb hby at_11) rfl ?_
          show Steps p.tables e below (T1.setTop (mkF m 12 #[.val (.int p1), .val (.int p2), .val (.int p3), .val (.int p4), .val (.ref b1), .unset, .unset, .unset] [(.int (p1 &&& (65535 : Int32))), (.int (0 : Int32)), (.ref b1)])) _
          refine XS.i2c X1.here hx rfl (hb hby at_12) rfl ?_
          show Steps p.tables e below (T1.setTop (mkF m 13 #[.val (.int p1), .val (.int p2), .val (.int p3), .val (.int p4), .val (.ref b1), .unset, .unset, .unset] [(.int (nar .char (p1 &&& (65535 : Int32)))), (.int (0 : Int32)), (.ref b1)])) _
          refine st4 _ ?_
          show Steps p.tables e below (T4.setTop (mkF m 14 #[.val (.int p1), .val (.int p2), .val (.int p3), .val (.int p4), .val (.ref b1), .unset, .unset, .unset] [])) _
          refine XS.aload X4.here hx rfl (hb hby at_14) rfl rfl ?_
          show Steps p.tables e below (T4.setTop (mkF m 16 #[.val (.int p1), .val (.int p2), .val (.int p3), .val (.int p4), .val (.ref b1), .unset, .unset, .unset] [(.ref b1)])) _
          refine XS.iconst X4.here hx rfl (hb hby at_16) ?_
          show Steps p.tables e below (T4.setTop (mkF m 17 #[.val (.int p1), .val (.int p2), .val (.int p3), .val (.int p4), .val (.ref b1), .unset, .unset, .unset] [(.int (1 : Int32)), (.ref b1)])) _
          refine XS.iloadN X4.here hx rfl (hb hby at_17) rfl ?_
          show Steps p.tables e below (T4.setTop (mkF m 18 #[.val (.int p1), .val (.int p2), .val (.int p3), .val (.int p4), .val (.ref b1), .unset, .unset, .unset] [(.int p1), (.int (1 : Int32)), (.ref b1)])) _
          refine XS.bipush X4.here hx rfl (hb hby at_18) ?_
          show Steps p.tables e below (T4.setTop (mkF m 20 #[.val (.int p1), .val (.int p2), .val (.int p3), .val (.int p4), .val (.ref b1), .unset, .unset, .unset] [(.int (16 : Int32)), (.int p1), (.int (1 : Int32)), (.ref b1)])) _
          refine XS.iushr X4.here hx rfl (hb hby at_20) rfl ?_
          show Steps p.tables e below (T4.setTop (mkF m 21 #[.val (.int p1), .val (.int p2), .val (.int p3), .val (.int p4), .val (.ref b1), .unset, .unset, .unset] [(.int (own_xs p1)), (.int (1 : Int32)), (.ref b1)])) _
          refine XS.i2c X4.here hx rfl (hb hby at_21) rfl ?_
          show Steps p.tables e below (T4.setTop (mkF m 22 #[.val (.int p1), .val (.int p2), .val (.int p3), .val (.int p4), .val (.ref b1), .unset, .unset, .unset] [(.int (nar .char (own_xs p1))), (.int (1 : Int32)), (.ref b1)])) _
          refine st7 _ ?_
          show Steps p.tables e below (T7.setTop (mkF m 23 #[.val (.int p1), .val (.int p2), .val (.int p3), .val (.int p4), .val (.ref b1), .unset, .unset, .unset] [])) _
          refine XS.aload X7.here hx rfl (hb hby at_23) rfl rfl ?_
          show Steps p.tables e below (T7.setTop (mkF m 25 #[.val (.int p1), .val (.int p2), .val (.int p3), .val (.int p4), .val (.ref b1), .unset, .unset, .unset] [(.ref b1)])) _
          refine XS.iconst X7.here hx rfl (hb hby at_25) ?_
          show Steps p.tables e below (T7.setTop (mkF m 26 #[.val (.int p1), .val (.int p2), .val (.int p3), .val (.int p4), .val (.ref b1), .unset, .unset, .unset] [(.int (2 : Int32)), (.ref b1)])) _
          refine XS.iloadN X7.here hx rfl (hb hby at_26) rfl ?_
          show Steps p.tables e below (T7.setTop (mkF m 27 #[.val (.int p1), .val (.int p2), .val (.int p3), .val (.int p4), .val (.ref b1), .unset, .unset, .unset] [(.int p2), (.int (2 : Int32)), (.ref b1)])) _
          refine X7.ldcInt hx hown (mvT hZ (hw _ (List.mem_of_getElem? (i := 1) rfl))) (g := (mkF m 27 #[.val (.int p1), .val (.int p2), .val (.int p3), .val (.int p4), .val (.ref b1), .unset, .unset, .unset] [(.int p2), (.int (2 : Int32)), (.ref b1)])) rfl (hb hby at_27) _ ?_
          show Steps p.tables e below (T7.setTop (mkF m 29 #[.val (.int p1), .val (.int p2), .val (.int p3), .val (.int p4), .val (.ref b1), .unset, .unset, .unset] [(.int (65535 : Int32)), (.int p2), (.int (2 : Int32)), (.ref b1)])) _
          refine XS.iand X7.here hx rfl (hb hby at_29) rfl ?_
          show Steps p.tables e below (T7.setTop (mkF m 30 #[.val (.int p1), .val (.int p2), .val (.int p3), .val (.int p4), .val (.ref b1), .unset, .unset, .unset] [(.int (p2 &&& (65535 : Int32))), (.int (2 : Int32)), (.ref b1)])) _
          refine XS.i2c X7.here hx rfl (hb hby at_30) rfl ?_
          show Steps p.tables e below (T7.setTop (mkF m 31 #[.val (.int p1), .val (.int p2), .val (.int p3), .val (.int p4), .val (.ref b1), .unset, .unset, .unset] [(.int (nar .char (p2 &&& (65535 : Int32)))), (.int (2 : Int32)), (.ref b1)])) _
          refine st10 _ ?_
          show Steps p.tables e below (T10.setTop (mkF m 32 #[.val (.int p1), .val (.int p2), .val (.int p3), .val (.int p4), .val (.ref b1), .unset, .unset, .unset] [])) _
          refine XS.aload X10.here hx rfl (hb hby at_32) rfl rfl ?_
          show Steps p.tables e below (T10.setTop (mkF m 34 #[.val (.int p1), .val (.int p2), .val (.int p3), .val (.int p4), .val (.ref b1), .unset, .unset, .unset] [(.ref b1)])) _
          refine XS.iconst X10.here hx rfl (hb hby at_34) ?_
          show Steps p.tables e below (T10.setTop (mkF m 35 #[.val (.int p1), .val (.int p2), .val (.int p3), .val (.int p4), .val (.ref b1), .unset, .unset, .unset] [(.int (3 : Int32)), (.ref b1)])) _
          refine XS.iloadN X10.here hx rfl (hb hby at_35) rfl ?_
          show Steps p.tables e below (T10.setTop (mkF m 36 #[.val (.int p1), .val (.int p2), .val (.int p3), .val (.int p4), .val (.ref b1), .unset, .unset, .unset] [(.int p2), (.int (3 : Int32)), (.ref b1)])) _
          refine XS.bipush X10.here hx rfl (hb hby at_36) ?_
          show Steps p.tables e below (T10.setTop (mkF m 38 #[.val (.int p1), .val (.int p2), .val (.int p3), .val (.int p4), .val (.ref b1), .unset, .unset, .unset] [(.int (16 : Int32)), (.int p2), (.int (3 : Int32)), (.ref b1)])) _
          refine XS.iushr X10.here hx rfl (hb hby at_38) rfl ?_
          show Steps p.tables e below (T10.setTop (mkF m 39 #[.val (.int p1), .val (.int p2), .val (.int p3), .val (.int p4), .val (.ref b1), .unset, .unset, .unset] [(.int (own_xs p2)), (.int (3 : Int32)), (.ref b1)])) _
          refine XS.i2c X10.here hx rfl (hb hby at_39) rfl ?_
          show Steps p.tables e below (T10.setTop (mkF m 40 #[.val (.int p1), .val (.int p2), .val (.int p3), .val (.int p4), .val (.ref b1), .unset, .unset, .unset] [(.int (nar .char (own_xs p2))), (.int (3 : Int32)), (.ref b1)])) _
          refine st13 _ ?_
          show Steps p.tables e below (T13.setTop (mkF m 41 #[.val (.int p1), .val (.int p2), .val (.int p3), .val (.int p4), .val (.ref b1), .unset, .unset, .unset] [])) _
          refine XS.iloadN X13.here hx rfl (hb hby at_41) rfl ?_
          show Steps p.tables e below (T13.setTop (mkF m 42 #[.val (.int p1), .val (.int p2), .val (.int p3), .val (.int p4), .val (.ref b1), .unset, .unset, .unset] [(.int p3)])) _
          refine X13.ldcInt hx hown (mvT hZ (hw _ (List.mem_of_getElem? (i := 2) rfl))) (g := (mkF m 42 #[.val (.int p1), .val (.int p2), .val (.int p3), .val (.int p4), .val (.ref b1), .unset, .unset, .unset] [(.int p3)])) rfl (hb hby at_42) _ ?_
          show Steps p.tables e below (T13.setTop (mkF m 44 #[.val (.int p1), .val (.int p2), .val (.int p3), .val (.int p4), .val (.ref b1), .unset, .unset, .unset] [(.int (2147483647 : Int32)), (.int p3)])) _
          refine XS.iand X13.here hx rfl (hb hby at_44) rfl ?_
          show Steps p.tables e below (T13.setTop (mkF m 45 #[.val (.int p1), .val (.int p2), .val (.int p3), .val (.int p4), .val (.ref b1), .unset, .unset, .unset] [(.int (p3 &&& (2147483647 : Int32)))])) _
          refine XS.iconst X13.here hx rfl (hb hby at_45) ?_
          show Steps p.tables e below (T13.setTop (mkF m 46 #[.val (.int p1), .val (.int p2), .val (.int p3), .val (.int p4), .val (.ref b1), .unset, .unset, .unset] [(.int (5 : Int32)), (.int (p3 &&& (2147483647 : Int32)))])) _
          refine iremM X13 hx rfl (hb hby at_46) rfl (by decide) ?_
          show Steps p.tables e below (T13.setTop (mkF m 47 #[.val (.int p1), .val (.int p2), .val (.int p3), .val (.int p4), .val (.ref b1), .unset, .unset, .unset] [(.int ((p3 &&& (2147483647 : Int32)) % (5 : Int32)))])) _
          rw [es]
          show Steps p.tables e below (T13.setTop (mkF m 47 #[.val (.int p1), .val (.int p2), .val (.int p3), .val (.int p4), .val (.ref b1), .unset, .unset, .unset] [(.int (Int32.ofNat s_))])) _
          refine XS.istore X13.here hx rfl (hb hby at_47) rfl (l' := #[.val (.int p1), .val (.int p2), .val (.int p3), .val (.int p4), .val (.ref b1), .val (.int (Int32.ofNat s_)), .unset, .unset]) rfl ?_
          show Steps p.tables e below (T13.setTop (mkF m 49 #[.val (.int p1), .val (.int p2), .val (.int p3), .val (.int p4), .val (.ref b1), .val (.int (Int32.ofNat s_)), .unset, .unset] [])) _
          refine XS.iloadN X13.here hx rfl (hb hby at_49) rfl ?_
          show Steps p.tables e below (T13.setTop (mkF m 50 #[.val (.int p1), .val (.int p2), .val (.int p3), .val (.int p4), .val (.ref b1), .val (.int (Int32.ofNat s_)), .unset, .unset] [(.int p4)])) _
          refine X13.ldcInt hx hown (mvT hZ (hw _ (List.mem_of_getElem? (i := 2) rfl))) (g := (mkF m 50 #[.val (.int p1), .val (.int p2), .val (.int p3), .val (.int p4), .val (.ref b1), .val (.int (Int32.ofNat s_)), .unset, .unset] [(.int p4)])) rfl (hb hby at_50) _ ?_
          show Steps p.tables e below (T13.setTop (mkF m 52 #[.val (.int p1), .val (.int p2), .val (.int p3), .val (.int p4), .val (.ref b1), .val (.int (Int32.ofNat s_)), .unset, .unset] [(.int (2147483647 : Int32)), (.int p4)])) _
          refine XS.iand X13.here hx rfl (hb hby at_52) rfl ?_
          show Steps p.tables e below (T13.setTop (mkF m 53 #[.val (.int p1), .val (.int p2), .val (.int p3), .val (.int p4), .val (.ref b1), .val (.int (Int32.ofNat s_)), .unset, .unset] [(.int (p4 &&& (2147483647 : Int32)))])) _
          refine XS.iconst X13.here hx rfl (hb hby at_53) ?_
          show Steps p.tables e below (T13.setTop (mkF m 54 #[.val (.int p1), .val (.int p2), .val (.int p3), .val (.int p4), .val (.ref b1), .val (.int (Int32.ofNat s_)), .unset, .unset] [(.int (5 : Int32)), (.int (p4 &&& (2147483647 : Int32)))])) _
          refine iremM X13 hx rfl (hb hby at_54) rfl (by decide) ?_
          show Steps p.tables e below (T13.setTop (mkF m 55 #[.val (.int p1), .val (.int p2), .val (.int p3), .val (.int p4), .val (.ref b1), .val (.int (Int32.ofNat s_)), .unset, .unset] [(.int ((p4 &&& (2147483647 : Int32)) % (5 : Int32)))])) _
          rw [ee]
          show Steps p.tables e below (T13.setTop (mkF m 55 #[.val (.int p1), .val (.int p2), .val (.int p3), .val (.int p4), .val (.ref b1), .val (.int (Int32.ofNat s_)), .unset, .unset] [(.int (Int32.ofNat e_))])) _
          refine XS.istore X13.here hx rfl (hb hby at_55) rfl (l' := #[.val (.int p1), .val (.int p2), .val (.int p3), .val (.int p4), .val (.ref b1), .val (.int (Int32.ofNat s_)), .val (.int (Int32.ofNat e_)), .unset]) rfl ?_
          show Steps p.tables e below (T13.setTop (mkF m 57 #[.val (.int p1), .val (.int p2), .val (.int p3), .val (.int p4), .val (.ref b1), .val (.int (Int32.ofNat s_)), .val (.int (Int32.ofNat e_)), .unset] [])) _
          refine XS.aload X13.here hx rfl (hb hby at_57) rfl rfl ?_
          show Steps p.tables e below (T13.setTop (mkF m 59 #[.val (.int p1), .val (.int p2), .val (.int p3), .val (.int p4), .val (.ref b1), .val (.int (Int32.ofNat s_)), .val (.int (Int32.ofNat e_)), .unset] [(.ref b1)])) _
          refine XS.iconst X13.here hx rfl (hb hby at_59) ?_
          show Steps p.tables e below (T13.setTop (mkF m 60 #[.val (.int p1), .val (.int p2), .val (.int p3), .val (.int p4), .val (.ref b1), .val (.int (Int32.ofNat s_)), .val (.int (Int32.ofNat e_)), .unset] [(.int (0 : Int32)), (.ref b1)])) _
          refine X13.caload hx (j := (0 : Int32)) (v := (.int (nar .char (nar .char (p1 &&& (65535 : Int32)))))) (by rw [e13]; exact Ar15.1) (State.isArrayOf_alike hZ.alike Ar15.2.1) Ar15.2.2 hin15 hat15 (g := (mkF m 60 #[.val (.int p1), .val (.int p2), .val (.int p3), .val (.int p4), .val (.ref b1), .val (.int (Int32.ofNat s_)), .val (.int (Int32.ofNat e_)), .unset] [(.int (0 : Int32)), (.ref b1)])) rfl rfl (hb hby at_60) _ ?_
          show Steps p.tables e below (T13.setTop (mkF m 61 #[.val (.int p1), .val (.int p2), .val (.int p3), .val (.int p4), .val (.ref b1), .val (.int (Int32.ofNat s_)), .val (.int (Int32.ofNat e_)), .unset] [(.int (nar .char (nar .char (p1 &&& (65535 : Int32)))))])) _
          refine XS.iconst X13.here hx rfl (hb hby at_61) ?_
          show Steps p.tables e below (T13.setTop (mkF m 62 #[.val (.int p1), .val (.int p2), .val (.int p3), .val (.int p4), .val (.ref b1), .val (.int (Int32.ofNat s_)), .val (.int (Int32.ofNat e_)), .unset] [(.int (0 : Int32)), (.int (nar .char (nar .char (p1 &&& (65535 : Int32)))))])) _
          refine XS.iload X13.here hx rfl (hb hby at_62) rfl ?_
          show Steps p.tables e below (T13.setTop (mkF m 64 #[.val (.int p1), .val (.int p2), .val (.int p3), .val (.int p4), .val (.ref b1), .val (.int (Int32.ofNat s_)), .val (.int (Int32.ofNat e_)), .unset] [(.int (Int32.ofNat s_)), (.int (0 : Int32)), (.int (nar .char (nar .char (p1 &&& (65535 : Int32)))))])) _
          refine XS.iload X13.here hx rfl (hb hby at_64) rfl ?_
          show Steps p.tables e below (T13.setTop (mkF m 66 #[.val (.int p1), .val (.int p2), .val (.int p3), .val (.int p4), .val (.ref b1), .val (.int (Int32.ofNat s_)), .val (.int (Int32.ofNat e_)), .unset] [(.int (Int32.ofNat e_)), (.int (Int32.ofNat s_)), (.int (0 : Int32)), (.int (nar .char (nar .char (p1 &&& (65535 : Int32)))))])) _
          refine st16 _ ?_
          show Steps p.tables e below (T16.setTop (mkF m 69 #[.val (.int p1), .val (.int p2), .val (.int p3), .val (.int p4), .val (.ref b1), .val (.int (Int32.ofNat s_)), .val (.int (Int32.ofNat e_)), .unset] [(.int (own_ok (nar .char (nar .char (p1 &&& (65535 : Int32)))) (0 : Int32) (Int32.ofNat s_) (Int32.ofNat e_)))])) _
          refine XS.ifNo X16.here hx rfl (hb hby at_69) rfl ((if0 _ _).trans (feq (ht0 : ¬ ((own_ok (nar .char (nar .char (p1 &&& (65535 : Int32)))) (0 : Int32) (Int32.ofNat s_) (Int32.ofNat e_)) = (0 : Int32)))).1) ?_
          show Steps p.tables e below (T16.setTop (mkF m 72 #[.val (.int p1), .val (.int p2), .val (.int p3), .val (.int p4), .val (.ref b1), .val (.int (Int32.ofNat s_)), .val (.int (Int32.ofNat e_)), .unset] [])) _
          refine XS.aload X16.here hx rfl (hb hby at_72) rfl rfl ?_
          show Steps p.tables e below (T16.setTop (mkF m 74 #[.val (.int p1), .val (.int p2), .val (.int p3), .val (.int p4), .val (.ref b1), .val (.int (Int32.ofNat s_)), .val (.int (Int32.ofNat e_)), .unset] [(.ref b1)])) _
          refine XS.iconst X16.here hx rfl (hb hby at_74) ?_
          show Steps p.tables e below (T16.setTop (mkF m 75 #[.val (.int p1), .val (.int p2), .val (.int p3), .val (.int p4), .val (.ref b1), .val (.int (Int32.ofNat s_)), .val (.int (Int32.ofNat e_)), .unset] [(.int (1 : Int32)), (.ref b1)])) _
          refine X16.caload hx (j := (1 : Int32)) (v := (.int (nar .char (nar .char (own_xs p1))))) (by rw [e16]; exact Ar17.1) (State.isArrayOf_alike hZ.alike Ar17.2.1) Ar17.2.2 hin17 hat17 (g := (mkF m 75 #[.val (.int p1), .val (.int p2), .val (.int p3), .val (.int p4), .val (.ref b1), .val (.int (Int32.ofNat s_)), .val (.int (Int32.ofNat e_)), .unset] [(.int (1 : Int32)), (.ref b1)])) rfl rfl (hb hby at_75) _ ?_
          show Steps p.tables e below (T16.setTop (mkF m 76 #[.val (.int p1), .val (.int p2), .val (.int p3), .val (.int p4), .val (.ref b1), .val (.int (Int32.ofNat s_)), .val (.int (Int32.ofNat e_)), .unset] [(.int (nar .char (nar .char (own_xs p1))))])) _
          refine XS.iconst X16.here hx rfl (hb hby at_76) ?_
          show Steps p.tables e below (T16.setTop (mkF m 77 #[.val (.int p1), .val (.int p2), .val (.int p3), .val (.int p4), .val (.ref b1), .val (.int (Int32.ofNat s_)), .val (.int (Int32.ofNat e_)), .unset] [(.int (1 : Int32)), (.int (nar .char (nar .char (own_xs p1))))])) _
          refine XS.iload X16.here hx rfl (hb hby at_77) rfl ?_
          show Steps p.tables e below (T16.setTop (mkF m 79 #[.val (.int p1), .val (.int p2), .val (.int p3), .val (.int p4), .val (.ref b1), .val (.int (Int32.ofNat s_)), .val (.int (Int32.ofNat e_)), .unset] [(.int (Int32.ofNat s_)), (.int (1 : Int32)), (.int (nar .char (nar .char (own_xs p1))))])) _
          refine XS.iload X16.here hx rfl (hb hby at_79) rfl ?_
          show Steps p.tables e below (T16.setTop (mkF m 81 #[.val (.int p1), .val (.int p2), .val (.int p3), .val (.int p4), .val (.ref b1), .val (.int (Int32.ofNat s_)), .val (.int (Int32.ofNat e_)), .unset] [(.int (Int32.ofNat e_)), (.int (Int32.ofNat s_)), (.int (1 : Int32)), (.int (nar .char (nar .char (own_xs p1))))])) _
          refine st18 _ ?_
          show Steps p.tables e below (T18.setTop (mkF m 84 #[.val (.int p1), .val (.int p2), .val (.int p3), .val (.int p4), .val (.ref b1), .val (.int (Int32.ofNat s_)), .val (.int (Int32.ofNat e_)), .unset] [(.int (own_ok (nar .char (nar .char (own_xs p1))) (1 : Int32) (Int32.ofNat s_) (Int32.ofNat e_)))])) _
          refine XS.ifNo X18.here hx rfl (hb hby at_84) rfl ((if0 _ _).trans (feq (ht1 : ¬ ((own_ok (nar .char (nar .char (own_xs p1))) (1 : Int32) (Int32.ofNat s_) (Int32.ofNat e_)) = (0 : Int32)))).1) ?_
          show Steps p.tables e below (T18.setTop (mkF m 87 #[.val (.int p1), .val (.int p2), .val (.int p3), .val (.int p4), .val (.ref b1), .val (.int (Int32.ofNat s_)), .val (.int (Int32.ofNat e_)), .unset] [])) _
          refine XS.aload X18.here hx rfl (hb hby at_87) rfl rfl ?_
          show Steps p.tables e below (T18.setTop (mkF m 89 #[.val (.int p1), .val (.int p2), .val (.int p3), .val (.int p4), .val (.ref b1), .val (.int (Int32.ofNat s_)), .val (.int (Int32.ofNat e_)), .unset] [(.ref b1)])) _
          refine XS.iconst X18.here hx rfl (hb hby at_89) ?_
          show Steps p.tables e below (T18.setTop (mkF m 90 #[.val (.int p1), .val (.int p2), .val (.int p3), .val (.int p4), .val (.ref b1), .val (.int (Int32.ofNat s_)), .val (.int (Int32.ofNat e_)), .unset] [(.int (2 : Int32)), (.ref b1)])) _
          refine X18.caload hx (j := (2 : Int32)) (v := (.int (nar .char (nar .char (p2 &&& (65535 : Int32)))))) (by rw [e18]; exact Ar19.1) (State.isArrayOf_alike hZ.alike Ar19.2.1) Ar19.2.2 hin19 hat19 (g := (mkF m 90 #[.val (.int p1), .val (.int p2), .val (.int p3), .val (.int p4), .val (.ref b1), .val (.int (Int32.ofNat s_)), .val (.int (Int32.ofNat e_)), .unset] [(.int (2 : Int32)), (.ref b1)])) rfl rfl (hb hby at_90) _ ?_
          show Steps p.tables e below (T18.setTop (mkF m 91 #[.val (.int p1), .val (.int p2), .val (.int p3), .val (.int p4), .val (.ref b1), .val (.int (Int32.ofNat s_)), .val (.int (Int32.ofNat e_)), .unset] [(.int (nar .char (nar .char (p2 &&& (65535 : Int32)))))])) _
          refine XS.iconst X18.here hx rfl (hb hby at_91) ?_
          show Steps p.tables e below (T18.setTop (mkF m 92 #[.val (.int p1), .val (.int p2), .val (.int p3), .val (.int p4), .val (.ref b1), .val (.int (Int32.ofNat s_)), .val (.int (Int32.ofNat e_)), .unset] [(.int (2 : Int32)), (.int (nar .char (nar .char (p2 &&& (65535 : Int32)))))])) _
          refine XS.iload X18.here hx rfl (hb hby at_92) rfl ?_
          show Steps p.tables e below (T18.setTop (mkF m 94 #[.val (.int p1), .val (.int p2), .val (.int p3), .val (.int p4), .val (.ref b1), .val (.int (Int32.ofNat s_)), .val (.int (Int32.ofNat e_)), .unset] [(.int (Int32.ofNat s_)), (.int (2 : Int32)), (.int (nar .char (nar .char (p2 &&& (65535 : Int32)))))])) _
          refine XS.iload X18.here hx rfl (hb hby at_94) rfl ?_
          show Steps p.tables e below (T18.setTop (mkF m 96 #[.val (.int p1), .val (.int p2), .val (.int p3), .val (.int p4), .val (.ref b1), .val (.int (Int32.ofNat s_)), .val (.int (Int32.ofNat e_)), .unset] [(.int (Int32.ofNat e_)), (.int (Int32.ofNat s_)), (.int (2 : Int32)), (.int (nar .char (nar .char (p2 &&& (65535 : Int32)))))])) _
          refine st20 _ ?_
          show Steps p.tables e below (T20.setTop (mkF m 99 #[.val (.int p1), .val (.int p2), .val (.int p3), .val (.int p4), .val (.ref b1), .val (.int (Int32.ofNat s_)), .val (.int (Int32.ofNat e_)), .unset] [(.int (own_ok (nar .char (nar .char (p2 &&& (65535 : Int32)))) (2 : Int32) (Int32.ofNat s_) (Int32.ofNat e_)))])) _
          refine XS.ifYes X20.here hx rfl (pc0 := 99) (pc' := 121) rfl (hb hby at_99) rfl ((if0 _ _).trans (teq (ht2 : (own_ok (nar .char (nar .char (p2 &&& (65535 : Int32)))) (2 : Int32) (Int32.ofNat s_) (Int32.ofNat e_)) = (0 : Int32))).1) (by decide) (by decide) ?_
          show Steps p.tables e below (T20.setTop (mkF m 121 #[.val (.int p1), .val (.int p2), .val (.int p3), .val (.int p4), .val (.ref b1), .val (.int (Int32.ofNat s_)), .val (.int (Int32.ofNat e_)), .unset] [])) _
          refine XS.iconst X20.here hx rfl (hb hby at_121) ?_
          show Steps p.tables e below (T20.setTop (mkF m 122 #[.val (.int p1), .val (.int p2), .val (.int p3), .val (.int p4), .val (.ref b1), .val (.int (Int32.ofNat s_)), .val (.int (Int32.ofNat e_)), .unset] [(.int (0 : Int32))])) _
          refine XS.istore X20.here hx rfl (hb hby at_122) rfl (l' := #[.val (.int p1), .val (.int p2), .val (.int p3), .val (.int p4), .val (.ref b1), .val (.int (Int32.ofNat s_)), .val (.int (Int32.ofNat e_)), .val (.int (0 : Int32))]) rfl ?_
          show Steps p.tables e below (T20.setTop (mkF m 124 #[.val (.int p1), .val (.int p2), .val (.int p3), .val (.int p4), .val (.ref b1), .val (.int (Int32.ofNat s_)), .val (.int (Int32.ofNat e_)), .val (.int (0 : Int32))] [])) _
          refine XS.aload X20.here hx rfl (hb hby at_124) rfl rfl ?_
          show Steps p.tables e below (T20.setTop (mkF m 126 #[.val (.int p1), .val (.int p2), .val (.int p3), .val (.int p4), .val (.ref b1), .val (.int (Int32.ofNat s_)), .val (.int (Int32.ofNat e_)), .val (.int (0 : Int32))] [(.ref b1)])) _
          refine XS.iload X20.here hx rfl (hb hby at_126) rfl ?_
          show Steps p.tables e below (T20.setTop (mkF m 128 #[.val (.int p1), .val (.int p2), .val (.int p3), .val (.int p4), .val (.ref b1), .val (.int (Int32.ofNat s_)), .val (.int (Int32.ofNat e_)), .val (.int (0 : Int32))] [(.int (Int32.ofNat s_)), (.ref b1)])) _
          refine XS.iload X20.here hx rfl (hb hby at_128) rfl ?_
          show Steps p.tables e below (T20.setTop (mkF m 130 #[.val (.int p1), .val (.int p2), .val (.int p3), .val (.int p4), .val (.ref b1), .val (.int (Int32.ofNat s_)), .val (.int (Int32.ofNat e_)), .val (.int (0 : Int32))] [(.int (Int32.ofNat e_)), (.int (Int32.ofNat s_)), (.ref b1)])) _
          refine st21 _ ?_
          show Steps p.tables e below (T21.setTop (mkF m 133 #[.val (.int p1), .val (.int p2), .val (.int p3), .val (.int p4), .val (.ref b1), .val (.int (Int32.ofNat s_)), .val (.int (Int32.ofNat e_)), .val (.int (0 : Int32))] [(.int (own_fold (own_f (nar .char (nar .char (p1 &&& (65535 : Int32)))) (nar .char (nar .char (own_xs p1))) (nar .char (nar .char (p2 &&& (65535 : Int32)))) (nar .char (nar .char (own_xs p2)))) (1 : Int32) s_ (e_ - s_)))])) _
          refine XS.iload X21.here hx rfl (hb hby at_133) rfl ?_
          show Steps p.tables e below (T21.setTop (mkF m 135 #[.val (.int p1), .val (.int p2), .val (.int p3), .val (.int p4), .val (.ref b1), .val (.int (Int32.ofNat s_)), .val (.int (Int32.ofNat e_)), .val (.int (0 : Int32))] [(.int (0 : Int32)), (.int (own_fold (own_f (nar .char (nar .char (p1 &&& (65535 : Int32)))) (nar .char (nar .char (own_xs p1))) (nar .char (nar .char (p2 &&& (65535 : Int32)))) (nar .char (nar .char (own_xs p2)))) (1 : Int32) s_ (e_ - s_)))])) _
          refine XS.icmpNo X21.here hx rfl (hb hby at_135) rfl (teq (by rw [own_fin (nar .char (nar .char (p1 &&& (65535 : Int32)))) (nar .char (nar .char (own_xs p1))) (nar .char (nar .char (p2 &&& (65535 : Int32)))) (nar .char (nar .char (own_xs p2))) s_ e_ hs4 he4, own_e, if_neg ht0, if_neg ht1, if_pos ht2] : (own_fold (own_f (nar .char (nar .char (p1 &&& (65535 : Int32)))) (nar .char (nar .char (own_xs p1))) (nar .char (nar .char (p2 &&& (65535 : Int32)))) (nar .char (nar .char (own_xs p2)))) (1 : Int32) s_ (e_ - s_)) = (0 : Int32))).2 ?_
          show Steps p.tables e below (T21.setTop (mkF m 138 #[.val (.int p1), .val (.int p2), .val (.int p3), .val (.int p4), .val (.ref b1), .val (.int (Int32.ofNat s_)), .val (.int (Int32.ofNat e_)), .val (.int (0 : Int32))] [])) _
          refine XS.iconst X21.here hx rfl (hb hby at_138) ?_
          show Steps p.tables e below (T21.setTop (mkF m 139 #[.val (.int p1), .val (.int p2), .val (.int p3), .val (.int p4), .val (.ref b1), .val (.int (Int32.ofNat s_)), .val (.int (Int32.ofNat e_)), .val (.int (0 : Int32))] [(.int (1 : Int32))])) _
          refine XS.goto X21.here hx rfl (pc0 := 139) (pc' := 143) rfl (hb hby at_139) (by decide) (by decide) ?_
          show Steps p.tables e below (T21.setTop (mkF m 143 #[.val (.int p1), .val (.int p2), .val (.int p3), .val (.int p4), .val (.ref b1), .val (.int (Int32.ofNat s_)), .val (.int (Int32.ofNat e_)), .val (.int (0 : Int32))] [(.int (1 : Int32))])) _
          exact retN X21 hx (t := .boolean) Bd.returns (by simp) (hb hby at_143) hr
        · show Qrm0 Z p1 p2 p3 p4  h0 n0 _ T21.heap _
          rw [e21]
          exact ⟨rfl, N21⟩
      · obtain ⟨cl21, Ar21, -, S21, M21, Hs21, -⟩ := (id V13)
        have hin21 : ¬ ((3 : Int32) < 0 ∨ cl21.slots.size ≤ ((3 : Int32)).toNatClampNeg) := inb_of S21 ⟨by decide, by decide⟩
        have hat21 : cl21.slots[((3 : Int32)).toNatClampNeg]? = some (.int (nar .char (nar .char (own_xs p2)))) := Has.at Hs21 hin21 rfl
        obtain ⟨_, _, ⟨T22, L22, k22, n22⟩, -, X22, ⟨Lc22, hQ22, l22, y22, z22⟩, st22⟩ := Jvm.LawKit.callS X20 hx (y := (⟨"com/example/tipple/tipple/IdsIsPrintableAsciiPinLaw", "ok", "(CIII)Z"⟩ : MethodName)) hown (mvT hZ (hw _ (List.mem_of_getElem? (i := 3) rfl))) (mvT hZ (hw _ (List.mem_of_getElem? (i := 4) rfl))) (mvT hZ (hw _ (List.mem_of_getElem? (i := 5) rfl))) (mvT hZ (hw _ (List.mem_of_getElem? (i := 6) rfl))) (by decide) (backOf (W := 0) (rm1 l Z a0 hw [] (nar .char (nar .char (own_xs p2))) (3 : Int32) (Int32.ofNat s_) (Int32.ofNat e_)  h13 n0 Z14 ) hZ (hw _ (List.mem_of_getElem? (i := 6) rfl)) (hw _ (List.mem_of_getElem? (i := 5) rfl)) (by decide) (by decide)) (g := (mkF m 111 #[.val (.int p1), .val (.int p2), .val (.int p3), .val (.int p4), .val (.ref b1), .val (.int (Int32.ofNat s_)), .val (.int (Int32.ofNat e_)), .unset] [(.int (Int32.ofNat e_)), (.int (Int32.ofNat s_)), (.int (3 : Int32)), (.int (nar .char (nar .char (own_xs p2))))])) rfl (by rw [hml]; rfl) (argsL := [(.int (nar .char (nar .char (own_xs p2)))), (.int (3 : Int32)), (.int (Int32.ofNat s_)), (.int (Int32.ofNat e_))]) (rest := []) (lenOf pd_0 rfl) rfl (by show 2 * 0 + _ ≤ _; exact Nat.le_of_eq rfl) (hb hby at_111) (fun _ _ => ⟨rfl, e20, (by decide : 1 + 0 ≤ _), (by decide : 4 + 0 ≤ _)⟩)
        dsimp only [Pt.U, Pt.locs, Pt.cells, Pt.slots] at X22 l22 y22 z22 st22 hQ22
        subst l22 y22 z22
        obtain ⟨rfl, N22q, e22⟩ := hQ22
        have N22 := Fr.app N20 N22q
        by_cases ht3 : (own_ok (nar .char (nar .char (own_xs p2))) (3 : Int32) (Int32.ofNat s_) (Int32.ofNat e_)) = (0 : Int32)
        · obtain ⟨_, _, ⟨T23, L23, k23, n23⟩, -, X23, ⟨Lc23, hQ23, l23, y23, z23⟩, st23⟩ := Jvm.LawKit.callS X22 hx (y := (⟨"com/example/tipple/tipple/Ids", "isPrintableAscii", "([CII)Z"⟩ : MethodName)) hown (mvT hZ (hw _ (List.mem_of_getElem? (i := 7) rfl))) (mvT hZ (hw _ (List.mem_of_getElem? (i := 8) rfl))) (mvT hZ (hw _ (List.mem_of_getElem? (i := 9) rfl))) (mvT hZ (hw _ (List.mem_of_getElem? (i := 10) rfl))) (by decide) (backOf (W := 0) (rm2 l Z a0 hw [] b1 s_ e_ k1 (nar .char (nar .char (p1 &&& (65535 : Int32)))) (nar .char (nar .char (own_xs p1))) (nar .char (nar .char (p2 &&& (65535 : Int32)))) (nar .char (nar .char (own_xs p2))) h13 n0 Z14 hs4 he4 V13) hZ (hw _ (List.mem_of_getElem? (i := 10) rfl)) (hw _ (List.mem_of_getElem? (i := 9) rfl)) (by decide) (by decide)) (g := (mkF m 130 #[.val (.int p1), .val (.int p2), .val (.int p3), .val (.int p4), .val (.ref b1), .val (.int (Int32.ofNat s_)), .val (.int (Int32.ofNat e_)), .val (.int (0 : Int32))] [(.int (Int32.ofNat e_)), (.int (Int32.ofNat s_)), (.ref b1)])) rfl (by rw [hml]; rfl) (argsL := [(.ref b1), (.int (Int32.ofNat s_)), (.int (Int32.ofNat e_))]) (rest := []) (lenOf pd_1 rfl) rfl (by show 2 * 0 + _ ≤ _; exact Nat.le_of_eq rfl) (hb hby at_130) (fun _ _ => ⟨rfl, e22, (by decide : 1 + 0 ≤ _), (by decide : 4 + 0 ≤ _)⟩)
          dsimp only [Pt.U, Pt.locs, Pt.cells, Pt.slots] at X23 l23 y23 z23 st23 hQ23
          subst l23 y23 z23
          obtain ⟨rfl, N23q, e23⟩ := hQ23
          have N23 := Fr.app N22 N23q
          obtain ⟨fs, hr, hrun, hended, hW, hsame⟩ := X23.leave (v := some (.int (1 : Int32))) (fun h => by rw [Bd.returns] at h; cases h)
          refine ⟨_, _, pre0 _ ?_, hrun, hended, _, _, rfl, ?_, ⟨_, rfl⟩, hW, hsame.mono (by decide) (by decide)⟩
          · show Steps p.tables e below (s₁.setTop (mkF m 0 #[.val (.int p1), .val (.int p2), .val (.int p3), .val (.int p4), .unset, .unset, .unset, .unset] [])) _
            refine XS.iconst X0.here hx rfl (hb hby at_0) ?_
            show Steps p.tables e below (s₁.setTop (mkF m 1 #[.val (.int p1), .val (.int p2), .val (.int p3), .val (.int p4), .unset, .unset, .unset, .unset] [(.int (4 : Int32))])) _
            refine st1 _ ?_
            show Steps p.tables e below (T1.setTop (mkF m 3 #[.val (.int p1), .val (.int p2), .val (.int p3), .val (.int p4), .unset, .unset, .unset, .unset] [(.ref b1)])) _
            refine XS.astore X1.here hx rfl (hb hby at_3) rfl rfl (l' := #[.val (.int p1), .val (.int p2), .val (.int p3), .val (.int p4), .val (.ref b1), .unset, .unset, .unset]) rfl ?_
            show Steps p.tables e below (T1.setTop (mkF m 5 #[.val (.int p1), .val (.int p2), .val (.int p3), .val (.int p4), .val (.ref b1), .unset, .unset, .unset] [])) _
            refine XS.aload X1.here hx rfl (hb hby at_5) rfl rfl ?_
            show Steps p.tables e below (T1.setTop (mkF m 7 #[.val (.int p1), .val (.int p2), .val (.int p3), .val (.int p4), .val (.ref b1), .unset, .unset, .unset] [(.ref b1)])) _
            refine XS.iconst X1.here hx rfl (hb hby at_7) ?_
            show Steps p.tables e below (T1.setTop (mkF m 8 #[.val (.int p1), .val (.int p2), .val (.int p3), .val (.int p4), .val (.ref b1), .unset, .unset, .unset] [(.int (0 : Int32)), (.ref b1)])) _
            refine XS.iloadN X1.here hx rfl (hb hby at_8) rfl ?_
            show Steps p.tables e below (T1.setTop (mkF m 9 #[.val (.int p1), .val (.int p2), .val (.int p3), .val (.int p4), .val (.ref b1), .unset, .unset, .unset] [(.int p1), (.int (0 : Int32)), (.ref b1)])) _
            refine X1.ldcInt hx hown (mvT hZ (hw _ (List.mem_of_getElem? (i := 1) rfl))) (g := (mkF m 9 #[.val (.int p1), .val (.int p2), .val (.int p3), .val (.int p4), .val (.ref b1), .unset, .unset, .unset] [(.int p1), (.int (0 : Int32)), (.ref b1)])) rfl (hb hby at_9) _ ?_
            show Steps p.tables e below (T1.setTop (mkF m 11 #[.val (.int p1), .val (.int p2), .val (.int p3), .val (.int p4), .val (.ref b1), .unset, .unset, .unset] [(.int (65535 : Int32)), (.int p1), (.int (0 : Int32)), (.ref b1)])) _
            refine XS.iand X1.here hx rfl (hb hby at_11) rfl ?_
            show Steps p.tables e below (T1.setTop (mkF m 12 #[.val (.int p1), .val (.int p2), .val (.int p3), .val (.int p4), .val (.ref b1), .unset, .unset, .unset] [(.int (p1 &&& (65535 : Int32))), (.int (0 : Int32)), (.ref b1)])) _
            refine XS.i2c X1.here hx rfl (hb hby at_12) rfl ?_
            show Steps p.tables e below (T1.setTop (mkF m 13 #[.val (.int p1), .val (.int p2), .val (.int p3), .val (.int p4), .val (.ref b1), .unset, .unset, .unset] [(.int (nar .char (p1 &&& (65535 : Int32)))), (.int (0 : Int32)), (.ref b1)])) _
            refine st4 _ ?_
            show Steps p.tables e below (T4.setTop (mkF m 14 #[.val (.int p1), .val (.int p2), .val (.int p3), .val (.int p4), .val (.ref b1), .unset, .unset, .unset] [])) _
            refine XS.aload X4.here hx rfl (hb hby at_14) rfl rfl ?_
            show Steps p.tables e below (T4.setTop (mkF m 16 #[.val (.int p1), .val (.int p2), .val (.int p3), .val (.int p4), .val (.ref b1), .unset, .unset, .unset] [(.ref b1)])) _
            refine XS.iconst X4.here hx rfl (hb hby at_16) ?_
            show Steps p.tables e below (T4.setTop (mkF m 17 #[.val (.int p1), .val (.int p2), .val (.int p3), .val (.int p4), .val (.ref b1), .unset, .unset, .unset] [(.int (1 : Int32)), (.ref b1)])) _
            refine XS.iloadN X4.here hx rfl (hb hby at_17) rfl ?_
            show Steps p.tables e below (T4.setTop (mkF m 18 #[.val (.int p1), .val (.int p2), .val (.int p3), .val (.int p4), .val (.ref b1), .unset, .unset, .unset] [(.int p1), (.int (1 : Int32)), (.ref b1)])) _
            refine XS.bipush X4.here hx rfl (hb hby at_18) ?_
            show Steps p.tables e below (T4.setTop (mkF m 20 #[.val (.int p1), .val (.int p2), .val (.int p3), .val (.int p4), .val (.ref b1), .unset, .unset, .unset] [(.int (16 : Int32)), (.int p1), (.int (1 : Int32)), (.ref b1)])) _
            refine XS.iushr X4.here hx rfl (hb hby at_20) rfl ?_
            show Steps p.tables e below (T4.setTop (mkF m 21 #[.val (.int p1), .val (.int p2), .val (.int p3), .val (.int p4), .val (.ref b1), .unset, .unset, .unset] [(.int (own_xs p1)), (.int (1 : Int32)), (.ref b1)])) _
            refine XS.i2c X4.here hx rfl (hb hby at_21) rfl ?_
            show Steps p.tables e below (T4.setTop (mkF m 22 #[.val (.int p1), .val (.int p2), .val (.int p3), .val (.int p4), .val (.ref b1), .unset, .unset, .unset] [(.int (nar .char (own_xs p1))), (.int (1 : Int32)), (.ref b1)])) _
            refine st7 _ ?_
            show Steps p.tables e below (T7.setTop (mkF m 23 #[.val (.int p1), .val (.int p2), .val (.int p3), .val (.int p4), .val (.ref b1), .unset, .unset, .unset] [])) _
            refine XS.aload X7.here hx rfl (hb hby at_23) rfl rfl ?_
            show Steps p.tables e below (T7.setTop (mkF m 25 #[.val (.int p1), .val (.int p2), .val (.int p3), .val (.int p4), .val (.ref b1), .unset, .unset, .unset] [(.ref b1)])) _
            refine XS.iconst X7.here hx rfl (hb hby at_25) ?_
            show Steps p.tables e below (T7.setTop (mkF m 26 #[.val (.int p1), .val (.int p2), .val (.int p3), .val (.int p4), .val (.ref b1), .unset, .unset, .unset] [(.int (2 : Int32)), (.ref b1)])) _
            refine XS.iloadN X7.here hx rfl (hb hby at_26) rfl ?_
            show Steps p.tables e below (T7.setTop (mkF m 27 #[.val (.int p1), .val (.int p2), .val (.int p3), .val (.int p4), .val (.ref b1), .unset, .unset, .unset] [(.int p2), (.int (2 : Int32)), (.ref b1)])) _
            refine X7.ldcInt hx hown (mvT hZ (hw _ (List.mem_of_getElem? (i := 1) rfl))) (g := (mkF m 27 #[.val (.int p1), .val (.int p2), .val (.int p3), .val (.int p4), .val (.ref b1), .unset, .unset, .unset] [(.int p2), (.int (2 : Int32)), (.ref b1)])) rfl (hb hby at_27) _ ?_
            show Steps p.tables e below (T7.setTop (mkF m 29 #[.val (.int p1), .val (.int p2), .val (.int p3), .val (.int p4), .val (.ref b1), .unset, .unset, .unset] [(.int (65535 : Int32)), (.int p2), (.int (2 : Int32)), (.ref b1)])) _
            refine XS.iand X7.here hx rfl (hb hby at_29) rfl ?_
            show Steps p.tables e below (T7.setTop (mkF m 30 #[.val (.int p1), .val (.int p2), .val (.int p3), .val (.int p4), .val (.ref b1), .unset, .unset, .unset] [(.int (p2 &&& (65535 : Int32))), (.int (2 : Int32)), (.ref b1)])) _
            refine XS.i2c X7.here hx rfl (hb hby at_30) rfl ?_
            show Steps p.tables e below (T7.setTop (mkF m 31 #[.val (.int p1), .val (.int p2), .val (.int p3), .val (.int p4), .val (.ref b1), .unset, .unset, .unset] [(.int (nar .char (p2 &&& (65535 : Int32)))), (.int (2 : Int32)), (.ref b1)])) _
            refine st10 _ ?_
            show Steps p.tables e below (T10.setTop (mkF m 32 #[.val (.int p1), .val (.int p2), .val (.int p3), .val (.int p4), .val (.ref b1), .unset, .unset, .unset] [])) _
            refine XS.aload X10.here hx rfl (hb hby at_32) rfl rfl ?_
            show Steps p.tables e below (T10.setTop (mkF m 34 #[.val (.int p1), .val (.int p2), .val (.int p3), .val (.int p4), .val (.ref b1), .unset, .unset, .unset] [(.ref b1)])) _
            refine XS.iconst X10.here hx rfl (hb hby at_34) ?_
            show Steps p.tables e below (T10.setTop (mkF m 35 #[.val (.int p1), .val (.int p2), .val (.int p3), .val (.int p4), .val (.ref b1), .unset, .unset, .unset] [(.int (3 : Int32)), (.ref b1)])) _
            refine XS.iloadN X10.here hx rfl (hb hby at_35) rfl ?_
            show Steps p.tables e below (T10.setTop (mkF m 36 #[.val (.int p1), .val (.int p2), .val (.int p3), .val (.int p4), .val (.ref b1), .unset, .unset, .unset] [(.int p2), (.int (3 : Int32)), (.ref b1)])) _
            refine XS.bipush X10.here hx rfl (hb hby at_36) ?_
            show Steps p.tables e below (T10.setTop (mkF m 38 #[.val (.int p1), .val (.int p2), .val (.int p3), .val (.int p4), .val (.ref b1), .unset, .unset, .unset] [(.int (16 : Int32)), (.int p2), (.int (3 : Int32)), (.ref b1)])) _
            refine XS.iushr X10.here hx rfl (hb hby at_38) rfl ?_
            show Steps p.tables e below (T10.setTop (mkF m 39 #[.val (.int p1), .val (.int p2), .val (.int p3), .val (.int p4), .val (.ref b1), .unset, .unset, .unset] [(.int (own_xs p2)), (.int (3 : Int32)), (.ref b1)])) _
            refine XS.i2c X10.here hx rfl (hb hby at_39) rfl ?_
            show Steps p.tables e below (T10.setTop (mkF m 40 #[.val (.int p1), .val (.int p2), .val (.int p3), .val (.int p4), .val (.ref b1), .unset, .unset, .unset] [(.int (nar .char (own_xs p2))), (.int (3 : Int32)), (.ref b1)])) _
            refine st13 _ ?_
            show Steps p.tables e below (T13.setTop (mkF m 41 #[.val (.int p1), .val (.int p2), .val (.int p3), .val (.int p4), .val (.ref b1), .unset, .unset, .unset] [])) _
            refine XS.iloadN X13.here hx rfl (hb hby at_41) rfl ?_
            show Steps p.tables e below (T13.setTop (mkF m 42 #[.val (.int p1), .val (.int p2), .val (.int p3), .val (.int p4), .val (.ref b1), .unset, .unset, .unset] [(.int p3)])) _
            refine X13.ldcInt hx hown (mvT hZ (hw _ (List.mem_of_getElem? (i := 2) rfl))) (g := (mkF m 42 #[.val (.int p1), .val (.int p2), .val (.int p3), .val (.int p4), .val (.ref b1), .unset, .unset, .unset] [(.int p3)])) rfl (hb hby at_42) _ ?_
            show Steps p.tables e below (T13.setTop (mkF m 44 #[.val (.int p1), .val (.int p2), .val (.int p3), .val (.int p4), .val (.ref b1), .unset, .unset, .unset] [(.int (2147483647 : Int32)), (.int p3)])) _
            refine XS.iand X13.here hx rfl (hb hby at_44) rfl ?_
            show Steps p.tables e below (T13.setTop (mkF m 45 #[.val (.int p1), .val (.int p2), .val (.int p3), .val (.int p4), .val (.ref b1), .unset, .unset, .unset] [(.int (p3 &&& (2147483647 : Int32)))])) _
            refine XS.iconst X13.here hx rfl (hb hby at_45) ?_
            show Steps p.tables e below (T13.setTop (mkF m 46 #[.val (.int p1), .val (.int p2), .val (.int p3), .val (.int p4), .val (.ref b1), .unset, .unset, .unset] [(.int (5 : Int32)), (.int (p3 &&& (2147483647 : Int32)))])) _
            refine iremM X13 hx rfl (hb hby at_46) rfl (by decide) ?_
            show Steps p.tables e below (T13.setTop (mkF m 47 #[.val (.int p1), .val (.int p2), .val (.int p3), .val (.int p4), .val (.ref b1), .unset, .unset, .unset] [(.int ((p3 &&& (2147483647 : Int32)) % (5 : Int32)))])) _
            rw [es]
            show Steps p.tables e below (T13.setTop (mkF m 47 #[.val (.int p1), .val (.int p2), .val (.int p3), .val (.int p4), .val (.ref b1), .unset, .unset, .unset] [(.int (Int32.ofNat s_))])) _
            refine XS.istore X13.here hx rfl (hb hby at_47) rfl (l' := #[.val (.int p1), .val (.int p2), .val (.int p3), .val (.int p4), .val (.ref b1), .val (.int (Int32.ofNat s_)), .unset, .unset]) rfl ?_
            show Steps p.tables e below (T13.setTop (mkF m 49 #[.val (.int p1), .val (.int p2), .val (.int p3), .val (.int p4), .val (.ref b1), .val (.int (Int32.ofNat s_)), .unset, .unset] [])) _
            refine XS.iloadN X13.here hx rfl (hb hby at_49) rfl ?_
            show Steps p.tables e below (T13.setTop (mkF m 50 #[.val (.int p1), .val (.int p2), .val (.int p3), .val (.int p4), .val (.ref b1), .val (.int (Int32.ofNat s_)), .unset, .unset] [(.int p4)])) _
            refine X13.ldcInt hx hown (mvT hZ (hw _ (List.mem_of_getElem? (i := 2) rfl))) (g := (mkF m 50 #[.val (.int p1), .val (.int p2), .val (.int p3), .val (.int p4), .val (.ref b1), .val (.int (Int32.ofNat s_)), .unset, .unset] [(.int p4)])) rfl (hb hby at_50) _ ?_
            show Steps p.tables e below (T13.setTop (mkF m 52 #[.val (.int p1), .val (.int p2), .val (.int p3), .val (.int p4), .val (.ref b1), .val (.int (Int32.ofNat s_)), .unset, .unset] [(.int (2147483647 : Int32)), (.int p4)])) _
            refine XS.iand X13.here hx rfl (hb hby at_52) rfl ?_
            show Steps p.tables e below (T13.setTop (mkF m 53 #[.val (.int p1), .val (.int p2), .val (.int p3), .val (.int p4), .val (.ref b1), .val (.int (Int32.ofNat s_)), .unset, .unset] [(.int (p4 &&& (2147483647 : Int32)))])) _
            refine XS.iconst X13.here hx rfl (hb hby at_53) ?_
            show Steps p.tables e below (T13.setTop (mkF m 54 #[.val (.int p1), .val (.int p2), .val (.int p3), .val (.int p4), .val (.ref b1), .val (.int (Int32.ofNat s_)), .unset, .unset] [(.int (5 : Int32)), (.int (p4 &&& (2147483647 : Int32)))])) _
            refine iremM X13 hx rfl (hb hby at_54) rfl (by decide) ?_
            show Steps p.tables e below (T13.setTop (mkF m 55 #[.val (.int p1), .val (.int p2), .val (.int p3), .val (.int p4), .val (.ref b1), .val (.int (Int32.ofNat s_)), .unset, .unset] [(.int ((p4 &&& (2147483647 : Int32)) % (5 : Int32)))])) _
            rw [ee]
            show Steps p.tables e below (T13.setTop (mkF m 55 #[.val (.int p1), .val (.int p2), .val (.int p3), .val (.int p4), .val (.ref b1), .val (.int (Int32.ofNat s_)), .unset, .unset] [(.int (Int32.ofNat e_))])) _
            refine XS.istore X13.here hx rfl (hb hby at_55) rfl (l' := #[.val (.int p1), .val (.int p2), .val (.int p3), .val (.int p4), .val (.ref b1), .val (.int (Int32.ofNat s_)), .val (.int (Int32.ofNat e_)), .unset]) rfl ?_
            show Steps p.tables e below (T13.setTop (mkF m 57 #[.val (.int p1), .val (.int p2), .val (.int p3), .val (.int p4), .val (.ref b1), .val (.int (Int32.ofNat s_)), .val (.int (Int32.ofNat e_)), .unset] [])) _
            refine XS.aload X13.here hx rfl (hb hby at_57) rfl rfl ?_
            show Steps p.tables e below (T13.setTop (mkF m 59 #[.val (.int p1), .val (.int p2), .val (.int p3), .val (.int p4), .val (.ref b1), .val (.int (Int32.ofNat s_)), .val (.int (Int32.ofNat e_)), .unset] [(.ref b1)])) _
            refine XS.iconst X13.here hx rfl (hb hby at_59) ?_
            show Steps p.tables e below (T13.setTop (mkF m 60 #[.val (.int p1), .val (.int p2), .val (.int p3), .val (.int p4), .val (.ref b1), .val (.int (Int32.ofNat s_)), .val (.int (Int32.ofNat e_)), .unset] [(.int (0 : Int32)), (.ref b1)])) _
            refine X13.caload hx (j := (0 : Int32)) (v := (.int (nar .char (nar .char (p1 &&& (65535 : Int32)))))) (by rw [e13]; exact Ar15.1) (State.isArrayOf_alike hZ.alike Ar15.2.1) Ar15.2.2 hin15 hat15 (g := (mkF m 60 #[.val (.int p1), .val (.int p2), .val (.int p3), .val (.int p4), .val (.ref b1), .val (.int (Int32.ofNat s_)), .val (.int (Int32.ofNat e_)), .unset] [(.int (0 : Int32)), (.ref b1)])) rfl rfl (hb hby at_60) _ ?_
            show Steps p.tables e below (T13.setTop (mkF m 61 #[.val (.int p1), .val (.int p2), .val (.int p3), .val (.int p4), .val (.ref b1), .val (.int (Int32.ofNat s_)), .val (.int (Int32.ofNat e_)), .unset] [(.int (nar .char (nar .char (p1 &&& (65535 : Int32)))))])) _
            refine XS.iconst X13.here hx rfl (hb hby at_61) ?_
            show Steps p.tables e below (T13.setTop (mkF m 62 #[.val (.int p1), .val (.int p2), .val (.int p3), .val (.int p4), .val (.ref b1), .val (.int (Int32.ofNat s_)), .val (.int (Int32.ofNat e_)), .unset] [(.int (0 : Int32)), (.int (nar .char (nar .char (p1 &&& (65535 : Int32)))))])) _
            refine XS.iload X13.here hx rfl (hb hby at_62) rfl ?_
            show Steps p.tables e below (T13.setTop (mkF m 64 #[.val (.int p1), .val (.int p2), .val (.int p3), .val (.int p4), .val (.ref b1), .val (.int (Int32.ofNat s_)), .val (.int (Int32.ofNat e_)), .unset] [(.int (Int32.ofNat s_)), (.int (0 : Int32)), (.int (nar .char (nar .char (p1 &&& (65535 : Int32)))))])) _
            refine XS.iload X13.here hx rfl (hb hby at_64) rfl ?_
            show Steps p.tables e below (T13.setTop (mkF m 66 #[.val (.int p1), .val (.int p2), .val (.int p3), .val (.int p4), .val (.ref b1), .val (.int (Int32.ofNat s_)), .val (.int (Int32.ofNat e_)), .unset] [(.int (Int32.ofNat e_)), (.int (Int32.ofNat s_)), (.int (0 : Int32)), (.int (nar .char (nar .char (p1 &&& (65535 : Int32)))))])) _
            refine st16 _ ?_
            show Steps p.tables e below (T16.setTop (mkF m 69 #[.val (.int p1), .val (.int p2), .val (.int p3), .val (.int p4), .val (.ref b1), .val (.int (Int32.ofNat s_)), .val (.int (Int32.ofNat e_)), .unset] [(.int (own_ok (nar .char (nar .char (p1 &&& (65535 : Int32)))) (0 : Int32) (Int32.ofNat s_) (Int32.ofNat e_)))])) _
            refine XS.ifNo X16.here hx rfl (hb hby at_69) rfl ((if0 _ _).trans (feq (ht0 : ¬ ((own_ok (nar .char (nar .char (p1 &&& (65535 : Int32)))) (0 : Int32) (Int32.ofNat s_) (Int32.ofNat e_)) = (0 : Int32)))).1) ?_
            show Steps p.tables e below (T16.setTop (mkF m 72 #[.val (.int p1), .val (.int p2), .val (.int p3), .val (.int p4), .val (.ref b1), .val (.int (Int32.ofNat s_)), .val (.int (Int32.ofNat e_)), .unset] [])) _
            refine XS.aload X16.here hx rfl (hb hby at_72) rfl rfl ?_
            show Steps p.tables e below (T16.setTop (mkF m 74 #[.val (.int p1), .val (.int p2), .val (.int p3), .val (.int p4), .val (.ref b1), .val (.int (Int32.ofNat s_)), .val (.int (Int32.ofNat e_)), .unset] [(.ref b1)])) _
            refine XS.iconst X16.here hx rfl (hb hby at_74) ?_
            show Steps p.tables e below (T16.setTop (mkF m 75 #[.val (.int p1), .val (.int p2), .val (.int p3), .val (.int p4), .val (.ref b1), .val (.int (Int32.ofNat s_)), .val (.int (Int32.ofNat e_)), .unset] [(.int (1 : Int32)), (.ref b1)])) _
            refine X16.caload hx (j := (1 : Int32)) (v := (.int (nar .char (nar .char (own_xs p1))))) (by rw [e16]; exact Ar17.1) (State.isArrayOf_alike hZ.alike Ar17.2.1) Ar17.2.2 hin17 hat17 (g := (mkF m 75 #[.val (.int p1), .val (.int p2), .val (.int p3), .val (.int p4), .val (.ref b1), .val (.int (Int32.ofNat s_)), .val (.int (Int32.ofNat e_)), .unset] [(.int (1 : Int32)), (.ref b1)])) rfl rfl (hb hby at_75) _ ?_
            show Steps p.tables e below (T16.setTop (mkF m 76 #[.val (.int p1), .val (.int p2), .val (.int p3), .val (.int p4), .val (.ref b1), .val (.int (Int32.ofNat s_)), .val (.int (Int32.ofNat e_)), .unset] [(.int (nar .char (nar .char (own_xs p1))))])) _
            refine XS.iconst X16.here hx rfl (hb hby at_76) ?_
            show Steps p.tables e below (T16.setTop (mkF m 77 #[.val (.int p1), .val (.int p2), .val (.int p3), .val (.int p4), .val (.ref b1), .val (.int (Int32.ofNat s_)), .val (.int (Int32.ofNat e_)), .unset] [(.int (1 : Int32)), (.int (nar .char (nar .char (own_xs p1))))])) _
            refine XS.iload X16.here hx rfl (hb hby at_77) rfl ?_
            show Steps p.tables e below (T16.setTop (mkF m 79 #[.val (.int p1), .val (.int p2), .val (.int p3), .val (.int p4), .val (.ref b1), .val (.int (Int32.ofNat s_)), .val (.int (Int32.ofNat e_)), .unset] [(.int (Int32.ofNat s_)), (.int (1 : Int32)), (.int (nar .char (nar .char (own_xs p1))))])) _
            refine XS.iload X16.here hx rfl (hb hby at_79) rfl ?_
            show Steps p.tables e below (T16.setTop (mkF m 81 #[.val (.int p1), .val (.int p2), .val (.int p3), .val (.int p4), .val (.ref b1), .val (.int (Int32.ofNat s_)), .val (.int (Int32.ofNat e_)), .unset] [(.int (Int32.ofNat e_)), (.int (Int32.ofNat s_)), (.int (1 : Int32)), (.int (nar .char (nar .char (own_xs p1))))])) _
            refine st18 _ ?_
            show Steps p.tables e below (T18.setTop (mkF m 84 #[.val (.int p1), .val (.int p2), .val (.int p3), .val (.int p4), .val (.ref b1), .val (.int (Int32.ofNat s_)), .val (.int (Int32.ofNat e_)), .unset] [(.int (own_ok (nar .char (nar .char (own_xs p1))) (1 : Int32) (Int32.ofNat s_) (Int32.ofNat e_)))])) _
            refine XS.ifNo X18.here hx rfl (hb hby at_84) rfl ((if0 _ _).trans (feq (ht1 : ¬ ((own_ok (nar .char (nar .char (own_xs p1))) (1 : Int32) (Int32.ofNat s_) (Int32.ofNat e_)) = (0 : Int32)))).1) ?_
            show Steps p.tables e below (T18.setTop (mkF m 87 #[.val (.int p1), .val (.int p2), .val (.int p3), .val (.int p4), .val (.ref b1), .val (.int (Int32.ofNat s_)), .val (.int (Int32.ofNat e_)), .unset] [])) _
            refine XS.aload X18.here hx rfl (hb hby at_87) rfl rfl ?_
            show Steps p.tables e below (T18.setTop (mkF m 89 #[.val (.int p1), .val (.int p2), .val (.int p3), .val (.int p4), .val (.ref b1), .val (.int (Int32.ofNat s_)), .val (.int (Int32.ofNat e_)), .unset] [(.ref b1)])) _
            refine XS.iconst X18.here hx rfl (hb hby at_89) ?_
            show Steps p.tables e below (T18.setTop (mkF m 90 #[.val (.int p1), .val (.int p2), .val (.int p3), .val (.int p4), .val (.ref b1), .val (.int (Int32.ofNat s_)), .val (.int (Int32.ofNat e_)), .unset] [(.int (2 : Int32)), (.ref b1)])) _
            refine X18.caload hx (j := (2 : Int32)) (v := (.int (nar .char (nar .char (p2 &&& (65535 : Int32)))))) (by rw [e18]; exact Ar19.1) (State.isArrayOf_alike hZ.alike Ar19.2.1) Ar19.2.2 hin19 hat19 (g := (mkF m 90 #[.val (.int p1), .val (.int p2), .val (.int p3), .val (.int p4), .val (.ref b1), .val (.int (Int32.ofNat s_)), .val (.int (Int32.ofNat e_)), .unset] [(.int (2 : Int32)), (.ref b1)])) rfl rfl (hb hby at_90) _ ?_
            show Steps p.tables e below (T18.setTop (mkF m 91 #[.val (.int p1), .val (.int p2), .val (.int p3), .val (.int p4), .val (.ref b1), .val (.int (Int32.ofNat s_)), .val (.int (Int32.ofNat e_)), .unset] [(.int (nar .char (nar .char (p2 &&& (65535 : Int32)))))])) _
            refine XS.iconst X18.here hx rfl (hb hby at_91) ?_
            show Steps p.tables e below (T18.setTop (mkF m 92 #[.val (.int p1), .val (.int p2), .val (.int p3), .val (.int p4), .val (.ref b1), .val (.int (Int32.ofNat s_)), .val (.int (Int32.ofNat e_)), .unset] [(.int (2 : Int32)), (.int (nar .char (nar .char (p2 &&& (65535 : Int32)))))])) _
            refine XS.iload X18.here hx rfl (hb hby at_92) rfl ?_
            show Steps p.tables e below (T18.setTop (mkF m 94 #[.val (.int p1), .val (.int p2), .val (.int p3), .val (.int p4), .val (.ref b1), .val (.int (Int32.ofNat s_)), .val (.int (Int32.ofNat e_)), .unset] [(.int (Int32.ofNat s_)), (.int (2 : Int32)), (.int (nar .char (nar .char (p2 &&& (65535 : Int32)))))])) _
            refine XS.iload X18.here hx rfl (hb hby at_94) rfl ?_
            show Steps p.tables e below (T18.setTop (mkF m 96 #[.val (.int p1), .val (.int p2), .val (.int p3), .val (.int p4), .val (.ref b1), .val (.int (Int32.ofNat s_)), .val (.int (Int32.ofNat e_)), .unset] [(.int (Int32.ofNat e_)), (.int (Int32.ofNat s_)), (.int (2 : Int32)), (.int (nar .char (nar .char (p2 &&& (65535 : Int32)))))])) _
            refine st20 _ ?_
            show Steps p.tables e below (T20.setTop (mkF m 99 #[.val (.int p1), .val (.int p2), .val (.int p3), .val (.int p4), .val (.ref b1), .val (.int (Int32.ofNat s_)), .val (.int (Int32.ofNat e_)), .unset] [(.int (own_ok (nar .char (nar .char (p2 &&& (65535 : Int32)))) (2 : Int32) (Int32.ofNat s_) (Int32.ofNat e_)))])) _
            refine XS.ifNo X20.here hx rfl (hb hby at_99) rfl ((if0 _ _).trans (feq (ht2 : ¬ ((own_ok (nar .char (nar .char (p2 &&& (65535 : Int32)))) (2 : Int32) (Int32.ofNat s_) (Int32.ofNat e_)) = (0 : Int32)))).1) ?_
            show Steps p.tables e below (T20.setTop (mkF m 102 #[.val (.int p1), .val (.int p2), .val (.int p3), .val (.int p4), .val (.ref b1), .val (.int (Int32.ofNat s_)), .val (.int (Int32.ofNat e_)), .unset] [])) _
            refine XS.aload X20.here hx rfl (hb hby at_102) rfl rfl ?_
            show Steps p.tables e below (T20.setTop (mkF m 104 #[.val (.int p1), .val (.int p2), .val (.int p3), .val (.int p4), .val (.ref b1), .val (.int (Int32.ofNat s_)), .val (.int (Int32.ofNat e_)), .unset] [(.ref b1)])) _
            refine XS.iconst X20.here hx rfl (hb hby at_104) ?_
            show Steps p.tables e below (T20.setTop (mkF m 105 #[.val (.int p1), .val (.int p2), .val (.int p3), .val (.int p4), .val (.ref b1), .val (.int (Int32.ofNat s_)), .val (.int (Int32.ofNat e_)), .unset] [(.int (3 : Int32)), (.ref b1)])) _
            refine X20.caload hx (j := (3 : Int32)) (v := (.int (nar .char (nar .char (own_xs p2))))) (by rw [e20]; exact Ar21.1) (State.isArrayOf_alike hZ.alike Ar21.2.1) Ar21.2.2 hin21 hat21 (g := (mkF m 105 #[.val (.int p1), .val (.int p2), .val (.int p3), .val (.int p4), .val (.ref b1), .val (.int (Int32.ofNat s_)), .val (.int (Int32.ofNat e_)), .unset] [(.int (3 : Int32)), (.ref b1)])) rfl rfl (hb hby at_105) _ ?_
            show Steps p.tables e below (T20.setTop (mkF m 106 #[.val (.int p1), .val (.int p2), .val (.int p3), .val (.int p4), .val (.ref b1), .val (.int (Int32.ofNat s_)), .val (.int (Int32.ofNat e_)), .unset] [(.int (nar .char (nar .char (own_xs p2))))])) _
            refine XS.iconst X20.here hx rfl (hb hby at_106) ?_
            show Steps p.tables e below (T20.setTop (mkF m 107 #[.val (.int p1), .val (.int p2), .val (.int p3), .val (.int p4), .val (.ref b1), .val (.int (Int32.ofNat s_)), .val (.int (Int32.ofNat e_)), .unset] [(.int (3 : Int32)), (.int (nar .char (nar .char (own_xs p2))))])) _
            refine XS.iload X20.here hx rfl (hb hby at_107) rfl ?_
            show Steps p.tables e below (T20.setTop (mkF m 109 #[.val (.int p1), .val (.int p2), .val (.int p3), .val (.int p4), .val (.ref b1), .val (.int (Int32.ofNat s_)), .val (.int (Int32.ofNat e_)), .unset] [(.int (Int32.ofNat s_)), (.int (3 : Int32)), (.int (nar .char (nar .char (own_xs p2))))])) _
            refine XS.iload X20.here hx rfl (hb hby at_109) rfl ?_
            show Steps p.tables e below (T20.setTop (mkF m 111 #[.val (.int p1), .val (.int p2), .val (.int p3), .val (.int p4), .val (.ref b1), .val (.int (Int32.ofNat s_)), .val (.int (Int32.ofNat e_)), .unset] [(.int (Int32.ofNat e_)), (.int (Int32.ofNat s_)), (.int (3 : Int32)), (.int (nar .char (nar .char (own_xs p2))))])) _
            refine st22 _ ?_
            show Steps p.tables e below (T22.setTop (mkF m 114 #[.val (.int p1), .val (.int p2), .val (.int p3), .val (.int p4), .val (.ref b1), .val (.int (Int32.ofNat s_)), .val (.int (Int32.ofNat e_)), .unset] [(.int (own_ok (nar .char (nar .char (own_xs p2))) (3 : Int32) (Int32.ofNat s_) (Int32.ofNat e_)))])) _
            refine XS.ifYes X22.here hx rfl (pc0 := 114) (pc' := 121) rfl (hb hby at_114) rfl ((if0 _ _).trans (teq (ht3 : (own_ok (nar .char (nar .char (own_xs p2))) (3 : Int32) (Int32.ofNat s_) (Int32.ofNat e_)) = (0 : Int32))).1) (by decide) (by decide) ?_
            show Steps p.tables e below (T22.setTop (mkF m 121 #[.val (.int p1), .val (.int p2), .val (.int p3), .val (.int p4), .val (.ref b1), .val (.int (Int32.ofNat s_)), .val (.int (Int32.ofNat e_)), .unset] [])) _
            refine XS.iconst X22.here hx rfl (hb hby at_121) ?_
            show Steps p.tables e below (T22.setTop (mkF m 122 #[.val (.int p1), .val (.int p2), .val (.int p3), .val (.int p4), .val (.ref b1), .val (.int (Int32.ofNat s_)), .val (.int (Int32.ofNat e_)), .unset] [(.int (0 : Int32))])) _
            refine XS.istore X22.here hx rfl (hb hby at_122) rfl (l' := #[.val (.int p1), .val (.int p2), .val (.int p3), .val (.int p4), .val (.ref b1), .val (.int (Int32.ofNat s_)), .val (.int (Int32.ofNat e_)), .val (.int (0 : Int32))]) rfl ?_
            show Steps p.tables e below (T22.setTop (mkF m 124 #[.val (.int p1), .val (.int p2), .val (.int p3), .val (.int p4), .val (.ref b1), .val (.int (Int32.ofNat s_)), .val (.int (Int32.ofNat e_)), .val (.int (0 : Int32))] [])) _
            refine XS.aload X22.here hx rfl (hb hby at_124) rfl rfl ?_
            show Steps p.tables e below (T22.setTop (mkF m 126 #[.val (.int p1), .val (.int p2), .val (.int p3), .val (.int p4), .val (.ref b1), .val (.int (Int32.ofNat s_)), .val (.int (Int32.ofNat e_)), .val (.int (0 : Int32))] [(.ref b1)])) _
            refine XS.iload X22.here hx rfl (hb hby at_126) rfl ?_
            show Steps p.tables e below (T22.setTop (mkF m 128 #[.val (.int p1), .val (.int p2), .val (.int p3), .val (.int p4), .val (.ref b1), .val (.int (Int32.ofNat s_)), .val (.int (Int32.ofNat e_)), .val (.int (0 : Int32))] [(.int (Int32.ofNat s_)), (.ref b1)])) _
            refine XS.iload X22.here hx rfl (hb hby at_128) rfl ?_
            show Steps p.tables e below (T22.setTop (mkF m 130 #[.val (.int p1), .val (.int p2), .val (.int p3), .val (.int p4), .val (.ref b1), .val (.int (Int32.ofNat s_)), .val (.int (Int32.ofNat e_)), .val (.int (0 : Int32))] [(.int (Int32.ofNat e_)), (.int (Int32.ofNat s_)), (.ref b1)])) _
            refine st23 _ ?_
            show Steps p.tables e below (T23.setTop (mkF m 133 #[.val (.int p1), .val (.int p2), .val (.int p3), .val (.int p4), .val (.ref b1), .val (.int (Int32.ofNat s_)), .val (.int (Int32.ofNat e_)), .val (.int (0 : Int32))] [(.int (own_fold (own_f (nar .char (nar .char (p1 &&& (65535 : Int32)))) (nar .char (nar .char (own_xs p1))) (nar .char (nar .char (p2 &&& (65535 : Int32)))) (nar .char (nar .char (own_xs p2)))) (1 : Int32) s_ (e_ - s_)))])) _
            refine XS.iload X23.here hx rfl (hb hby at_133) rfl ?_
            show Steps p.tables e below (T23.setTop (mkF m 135 #[.val (.int p1), .val (.int p2), .val (.int p3), .val (.int p4), .val (.ref b1), .val (.int (Int32.ofNat s_)), .val (.int (Int32.ofNat e_)), .val (.int (0 : Int32))] [(.int (0 : Int32)), (.int (own_fold (own_f (nar .char (nar .char (p1 &&& (65535 : Int32)))) (nar .char (nar .char (own_xs p1))) (nar .char (nar .char (p2 &&& (65535 : Int32)))) (nar .char (nar .char (own_xs p2)))) (1 : Int32) s_ (e_ - s_)))])) _
            refine XS.icmpNo X23.here hx rfl (hb hby at_135) rfl (teq (by rw [own_fin (nar .char (nar .char (p1 &&& (65535 : Int32)))) (nar .char (nar .char (own_xs p1))) (nar .char (nar .char (p2 &&& (65535 : Int32)))) (nar .char (nar .char (own_xs p2))) s_ e_ hs4 he4, own_e, if_neg ht0, if_neg ht1, if_neg ht2, if_pos ht3] : (own_fold (own_f (nar .char (nar .char (p1 &&& (65535 : Int32)))) (nar .char (nar .char (own_xs p1))) (nar .char (nar .char (p2 &&& (65535 : Int32)))) (nar .char (nar .char (own_xs p2)))) (1 : Int32) s_ (e_ - s_)) = (0 : Int32))).2 ?_
            show Steps p.tables e below (T23.setTop (mkF m 138 #[.val (.int p1), .val (.int p2), .val (.int p3), .val (.int p4), .val (.ref b1), .val (.int (Int32.ofNat s_)), .val (.int (Int32.ofNat e_)), .val (.int (0 : Int32))] [])) _
            refine XS.iconst X23.here hx rfl (hb hby at_138) ?_
            show Steps p.tables e below (T23.setTop (mkF m 139 #[.val (.int p1), .val (.int p2), .val (.int p3), .val (.int p4), .val (.ref b1), .val (.int (Int32.ofNat s_)), .val (.int (Int32.ofNat e_)), .val (.int (0 : Int32))] [(.int (1 : Int32))])) _
            refine XS.goto X23.here hx rfl (pc0 := 139) (pc' := 143) rfl (hb hby at_139) (by decide) (by decide) ?_
            show Steps p.tables e below (T23.setTop (mkF m 143 #[.val (.int p1), .val (.int p2), .val (.int p3), .val (.int p4), .val (.ref b1), .val (.int (Int32.ofNat s_)), .val (.int (Int32.ofNat e_)), .val (.int (0 : Int32))] [(.int (1 : Int32))])) _
            exact retN X23 hx (t := .boolean) Bd.returns (by simp) (hb hby at_143) hr
          · show Qrm0 Z p1 p2 p3 p4  h0 n0 _ T23.heap _
            rw [e23]
            exact ⟨rfl, N23⟩
        · obtain ⟨_, _, ⟨T23, L23, k23, n23⟩, -, X23, ⟨Lc23, hQ23, l23, y23, z23⟩, st23⟩ := Jvm.LawKit.callS X22 hx (y := (⟨"com/example/tipple/tipple/Ids", "isPrintableAscii", "([CII)Z"⟩ : MethodName)) hown (mvT hZ (hw _ (List.mem_of_getElem? (i := 7) rfl))) (mvT hZ (hw _ (List.mem_of_getElem? (i := 8) rfl))) (mvT hZ (hw _ (List.mem_of_getElem? (i := 9) rfl))) (mvT hZ (hw _ (List.mem_of_getElem? (i := 10) rfl))) (by decide) (backOf (W := 0) (rm2 l Z a0 hw [] b1 s_ e_ k1 (nar .char (nar .char (p1 &&& (65535 : Int32)))) (nar .char (nar .char (own_xs p1))) (nar .char (nar .char (p2 &&& (65535 : Int32)))) (nar .char (nar .char (own_xs p2))) h13 n0 Z14 hs4 he4 V13) hZ (hw _ (List.mem_of_getElem? (i := 10) rfl)) (hw _ (List.mem_of_getElem? (i := 9) rfl)) (by decide) (by decide)) (g := (mkF m 130 #[.val (.int p1), .val (.int p2), .val (.int p3), .val (.int p4), .val (.ref b1), .val (.int (Int32.ofNat s_)), .val (.int (Int32.ofNat e_)), .val (.int (1 : Int32))] [(.int (Int32.ofNat e_)), (.int (Int32.ofNat s_)), (.ref b1)])) rfl (by rw [hml]; rfl) (argsL := [(.ref b1), (.int (Int32.ofNat s_)), (.int (Int32.ofNat e_))]) (rest := []) (lenOf pd_1 rfl) rfl (by show 2 * 0 + _ ≤ _; exact Nat.le_of_eq rfl) (hb hby at_130) (fun _ _ => ⟨rfl, e22, (by decide : 1 + 0 ≤ _), (by decide : 4 + 0 ≤ _)⟩)
          dsimp only [Pt.U, Pt.locs, Pt.cells, Pt.slots] at X23 l23 y23 z23 st23 hQ23
          subst l23 y23 z23
          obtain ⟨rfl, N23q, e23⟩ := hQ23
          have N23 := Fr.app N22 N23q
          obtain ⟨fs, hr, hrun, hended, hW, hsame⟩ := X23.leave (v := some (.int (1 : Int32))) (fun h => by rw [Bd.returns] at h; cases h)
          refine ⟨_, _, pre0 _ ?_, hrun, hended, _, _, rfl, ?_, ⟨_, rfl⟩, hW, hsame.mono (by decide) (by decide)⟩
          · show Steps p.tables e below (s₁.setTop (mkF m 0 #[.val (.int p1), .val (.int p2), .val (.int p3), .val (.int p4), .unset, .unset, .unset, .unset] [])) _
            refine XS.iconst X0.here hx rfl (hb hby at_0) ?_
            show Steps p.tables e below (s₁.setTop (mkF m 1 #[.val (.int p1), .val (.int p2), .val (.int p3), .val (.int p4), .unset, .unset, .unset, .unset] [(.int (4 : Int32))])) _
            refine st1 _ ?_
            show Steps p.tables e below (T1.setTop (mkF m 3 #[.val (.int p1), .val (.int p2), .val (.int p3), .val (.int p4), .unset, .unset, .unset, .unset] [(.ref b1)])) _
            refine XS.astore X1.here hx rfl (hb hby at_3) rfl rfl (l' := #[.val (.int p1), .val (.int p2), .val (.int p3), .val (.int p4), .val (.ref b1), .unset, .unset, .unset]) rfl ?_
            show Steps p.tables e below (T1.setTop (mkF m 5 #[.val (.int p1), .val (.int p2), .val (.int p3), .val (.int p4), .val (.ref b1), .unset, .unset, .unset] [])) _
            refine XS.aload X1.here hx rfl (hb hby at_5) rfl rfl ?_
            show Steps p.tables e below (T1.setTop (mkF m 7 #[.val (.int p1), .val (.int p2), .val (.int p3), .val (.int p4), .val (.ref b1), .unset, .unset, .unset] [(.ref b1)])) _
            refine XS.iconst X1.here hx rfl (hb hby at_7) ?_
            show Steps p.tables e below (T1.setTop (mkF m 8 #[.val (.int p1), .val (.int p2), .val (.int p3), .val (.int p4), .val (.ref b1), .unset, .unset, .unset] [(.int (0 : Int32)), (.ref b1)])) _
            refine XS.iloadN X1.here hx rfl (hb hby at_8) rfl ?_
            show Steps p.tables e below (T1.setTop (mkF m 9 #[.val (.int p1), .val (.int p2), .val (.int p3), .val (.int p4), .val (.ref b1), .unset, .unset, .unset] [(.int p1), (.int (0 : Int32)), (.ref b1)])) _
            refine X1.ldcInt hx hown (mvT hZ (hw _ (List.mem_of_getElem? (i := 1) rfl))) (g := (mkF m 9 #[.val (.int p1), .val (.int p2), .val (.int p3), .val (.int p4), .val (.ref b1), .unset, .unset, .unset] [(.int p1), (.int (0 : Int32)), (.ref b1)])) rfl (hb hby at_9) _ ?_
            show Steps p.tables e below (T1.setTop (mkF m 11 #[.val (.int p1), .val (.int p2), .val (.int p3), .val (.int p4), .val (.ref b1), .unset, .unset, .unset] [(.int (65535 : Int32)), (.int p1), (.int (0 : Int32)), (.ref b1)])) _
            refine XS.iand X1.here hx rfl (hb hby at_11) rfl ?_
            show Steps p.tables e below (T1.setTop (mkF m 12 #[.val (.int p1), .val (.int p2), .val (.int p3), .val (.int p4), .val (.ref b1), .unset, .unset, .unset] [(.int (p1 &&& (65535 : Int32))), (.int (0 : Int32)), (.ref b1)])) _
            refine XS.i2c X1.here hx rfl (hb hby at_12) rfl ?_
            show Steps p.tables e below (T1.setTop (mkF m 13 #[.val (.int p1), .val (.int p2), .val (.int p3), .val (.int p4), .val (.ref b1), .unset, .unset, .unset] [(.int (nar .char (p1 &&& (65535 : Int32)))), (.int (0 : Int32)), (.ref b1)])) _
            refine st4 _ ?_
            show Steps p.tables e below (T4.setTop (mkF m 14 #[.val (.int p1), .val (.int p2), .val (.int p3), .val (.int p4), .val (.ref b1), .unset, .unset, .unset] [])) _
            refine XS.aload X4.here hx rfl (hb hby at_14) rfl rfl ?_
            show Steps p.tables e below (T4.setTop (mkF m 16 #[.val (.int p1), .val (.int p2), .val (.int p3), .val (.int p4), .val (.ref b1), .unset, .unset, .unset] [(.ref b1)])) _
            refine XS.iconst X4.here hx rfl (hb hby at_16) ?_
            show Steps p.tables e below (T4.setTop (mkF m 17 #[.val (.int p1), .val (.int p2), .val (.int p3), .val (.int p4), .val (.ref b1), .unset, .unset, .unset] [(.int (1 : Int32)), (.ref b1)])) _
            refine XS.iloadN X4.here hx rfl (hb hby at_17) rfl ?_
            show Steps p.tables e below (T4.setTop (mkF m 18 #[.val (.int p1), .val (.int p2), .val (.int p3), .val (.int p4), .val (.ref b1), .unset, .unset, .unset] [(.int p1), (.int (1 : Int32)), (.ref b1)])) _
            refine XS.bipush X4.here hx rfl (hb hby at_18) ?_
            show Steps p.tables e below (T4.setTop (mkF m 20 #[.val (.int p1), .val (.int p2), .val (.int p3), .val (.int p4), .val (.ref b1), .unset, .unset, .unset] [(.int (16 : Int32)), (.int p1), (.int (1 : Int32)), (.ref b1)])) _
            refine XS.iushr X4.here hx rfl (hb hby at_20) rfl ?_
            show Steps p.tables e below (T4.setTop (mkF m 21 #[.val (.int p1), .val (.int p2), .val (.int p3), .val (.int p4), .val (.ref b1), .unset, .unset, .unset] [(.int (own_xs p1)), (.int (1 : Int32)), (.ref b1)])) _
            refine XS.i2c X4.here hx rfl (hb hby at_21) rfl ?_
            show Steps p.tables e below (T4.setTop (mkF m 22 #[.val (.int p1), .val (.int p2), .val (.int p3), .val (.int p4), .val (.ref b1), .unset, .unset, .unset] [(.int (nar .char (own_xs p1))), (.int (1 : Int32)), (.ref b1)])) _
            refine st7 _ ?_
            show Steps p.tables e below (T7.setTop (mkF m 23 #[.val (.int p1), .val (.int p2), .val (.int p3), .val (.int p4), .val (.ref b1), .unset, .unset, .unset] [])) _
            refine XS.aload X7.here hx rfl (hb hby at_23) rfl rfl ?_
            show Steps p.tables e below (T7.setTop (mkF m 25 #[.val (.int p1), .val (.int p2), .val (.int p3), .val (.int p4), .val (.ref b1), .unset, .unset, .unset] [(.ref b1)])) _
            refine XS.iconst X7.here hx rfl (hb hby at_25) ?_
            show Steps p.tables e below (T7.setTop (mkF m 26 #[.val (.int p1), .val (.int p2), .val (.int p3), .val (.int p4), .val (.ref b1), .unset, .unset, .unset] [(.int (2 : Int32)), (.ref b1)])) _
            refine XS.iloadN X7.here hx rfl (hb hby at_26) rfl ?_
            show Steps p.tables e below (T7.setTop (mkF m 27 #[.val (.int p1), .val (.int p2), .val (.int p3), .val (.int p4), .val (.ref b1), .unset, .unset, .unset] [(.int p2), (.int (2 : Int32)), (.ref b1)])) _
            refine X7.ldcInt hx hown (mvT hZ (hw _ (List.mem_of_getElem? (i := 1) rfl))) (g := (mkF m 27 #[.val (.int p1), .val (.int p2), .val (.int p3), .val (.int p4), .val (.ref b1), .unset, .unset, .unset] [(.int p2), (.int (2 : Int32)), (.ref b1)])) rfl (hb hby at_27) _ ?_
            show Steps p.tables e below (T7.setTop (mkF m 29 #[.val (.int p1), .val (.int p2), .val (.int p3), .val (.int p4), .val (.ref b1), .unset, .unset, .unset] [(.int (65535 : Int32)), (.int p2), (.int (2 : Int32)), (.ref b1)])) _
            refine XS.iand X7.here hx rfl (hb hby at_29) rfl ?_
            show Steps p.tables e below (T7.setTop (mkF m 30 #[.val (.int p1), .val (.int p2), .val (.int p3), .val (.int p4), .val (.ref b1), .unset, .unset, .unset] [(.int (p2 &&& (65535 : Int32))), (.int (2 : Int32)), (.ref b1)])) _
            refine XS.i2c X7.here hx rfl (hb hby at_30) rfl ?_
            show Steps p.tables e below (T7.setTop (mkF m 31 #[.val (.int p1), .val (.int p2), .val (.int p3), .val (.int p4), .val (.ref b1), .unset, .unset, .unset] [(.int (nar .char (p2 &&& (65535 : Int32)))), (.int (2 : Int32)), (.ref b1)])) _
            refine st10 _ ?_
            show Steps p.tables e below (T10.setTop (mkF m 32 #[.val (.int p1), .val (.int p2), .val (.int p3), .val (.int p4), .val (.ref b1), .unset, .unset, .unset] [])) _
            refine XS.aload X10.here hx rfl (hb hby at_32) rfl rfl ?_
            show Steps p.tables e below (T10.setTop (mkF m 34 #[.val (.int p1), .val (.int p2), .val (.int p3), .val (.int p4), .val (.ref b1), .unset, .unset, .unset] [(.ref b1)])) _
            refine XS.iconst X10.here hx rfl (hb hby at_34) ?_
            show Steps p.tables e below (T10.setTop (mkF m 35 #[.val (.int p1), .val (.int p2), .val (.int p3), .val (.int p4), .val (.ref b1), .unset, .unset, .unset] [(.int (3 : Int32)), (.ref b1)])) _
            refine XS.iloadN X10.here hx rfl (hb hby at_35) rfl ?_
            show Steps p.tables e below (T10.setTop (mkF m 36 #[.val (.int p1), .val (.int p2), .val (.int p3), .val (.int p4), .val (.ref b1), .unset, .unset, .unset] [(.int p2), (.int (3 : Int32)), (.ref b1)])) _
            refine XS.bipush X10.here hx rfl (hb hby at_36) ?_
            show Steps p.tables e below (T10.setTop (mkF m 38 #[.val (.int p1), .val (.int p2), .val (.int p3), .val (.int p4), .val (.ref b1), .unset, .unset, .unset] [(.int (16 : Int32)), (.int p2), (.int (3 : Int32)), (.ref b1)])) _
            refine XS.iushr X10.here hx rfl (hb hby at_38) rfl ?_
            show Steps p.tables e below (T10.setTop (mkF m 39 #[.val (.int p1), .val (.int p2), .val (.int p3), .val (.int p4), .val (.ref b1), .unset, .unset, .unset] [(.int (own_xs p2)), (.int (3 : Int32)), (.ref b1)])) _
            refine XS.i2c X10.here hx rfl (hb hby at_39) rfl ?_
            show Steps p.tables e below (T10.setTop (mkF m 40 #[.val (.int p1), .val (.int p2), .val (.int p3), .val (.int p4), .val (.ref b1), .unset, .unset, .unset] [(.int (nar .char (own_xs p2))), (.int (3 : Int32)), (.ref b1)])) _
            refine st13 _ ?_
            show Steps p.tables e below (T13.setTop (mkF m 41 #[.val (.int p1), .val (.int p2), .val (.int p3), .val (.int p4), .val (.ref b1), .unset, .unset, .unset] [])) _
            refine XS.iloadN X13.here hx rfl (hb hby at_41) rfl ?_
            show Steps p.tables e below (T13.setTop (mkF m 42 #[.val (.int p1), .val (.int p2), .val (.int p3), .val (.int p4), .val (.ref b1), .unset, .unset, .unset] [(.int p3)])) _
            refine X13.ldcInt hx hown (mvT hZ (hw _ (List.mem_of_getElem? (i := 2) rfl))) (g := (mkF m 42 #[.val (.int p1), .val (.int p2), .val (.int p3), .val (.int p4), .val (.ref b1), .unset, .unset, .unset] [(.int p3)])) rfl (hb hby at_42) _ ?_
            show Steps p.tables e below (T13.setTop (mkF m 44 #[.val (.int p1), .val (.int p2), .val (.int p3), .val (.int p4), .val (.ref b1), .unset, .unset, .unset] [(.int (2147483647 : Int32)), (.int p3)])) _
            refine XS.iand X13.here hx rfl (hb hby at_44) rfl ?_
            show Steps p.tables e below (T13.setTop (mkF m 45 #[.val (.int p1), .val (.int p2), .val (.int p3), .val (.int p4), .val (.ref b1), .unset, .unset, .unset] [(.int (p3 &&& (2147483647 : Int32)))])) _
            refine XS.iconst X13.here hx rfl (hb hby at_45) ?_
            show Steps p.tables e below (T13.setTop (mkF m 46 #[.val (.int p1), .val (.int p2), .val (.int p3), .val (.int p4), .val (.ref b1), .unset, .unset, .unset] [(.int (5 : Int32)), (.int (p3 &&& (2147483647 : Int32)))])) _
            refine iremM X13 hx rfl (hb hby at_46) rfl (by decide) ?_
            show Steps p.tables e below (T13.setTop (mkF m 47 #[.val (.int p1), .val (.int p2), .val (.int p3), .val (.int p4), .val (.ref b1), .unset, .unset, .unset] [(.int ((p3 &&& (2147483647 : Int32)) % (5 : Int32)))])) _
            rw [es]
            show Steps p.tables e below (T13.setTop (mkF m 47 #[.val (.int p1), .val (.int p2), .val (.int p3), .val (.int p4), .val (.ref b1), .unset, .unset, .unset] [(.int (Int32.ofNat s_))])) _
            refine XS.istore X13.here hx rfl (hb hby at_47) rfl (l' := #[.val (.int p1), .val (.int p2), .val (.int p3), .val (.int p4), .val (.ref b1), .val (.int (Int32.ofNat s_)), .unset, .unset]) rfl ?_
            show Steps p.tables e below (T13.setTop (mkF m 49 #[.val (.int p1), .val (.int p2), .val (.int p3), .val (.int p4), .val (.ref b1), .val (.int (Int32.ofNat s_)), .unset, .unset] [])) _
            refine XS.iloadN X13.here hx rfl (hb hby at_49) rfl ?_
            show Steps p.tables e below (T13.setTop (mkF m 50 #[.val (.int p1), .val (.int p2), .val (.int p3), .val (.int p4), .val (.ref b1), .val (.int (Int32.ofNat s_)), .unset, .unset] [(.int p4)])) _
            refine X13.ldcInt hx hown (mvT hZ (hw _ (List.mem_of_getElem? (i := 2) rfl))) (g := (mkF m 50 #[.val (.int p1), .val (.int p2), .val (.int p3), .val (.int p4), .val (.ref b1), .val (.int (Int32.ofNat s_)), .unset, .unset] [(.int p4)])) rfl (hb hby at_50) _ ?_
            show Steps p.tables e below (T13.setTop (mkF m 52 #[.val (.int p1), .val (.int p2), .val (.int p3), .val (.int p4), .val (.ref b1), .val (.int (Int32.ofNat s_)), .unset, .unset] [(.int (2147483647 : Int32)), (.int p4)])) _
            refine XS.iand X13.here hx rfl (hb hby at_52) rfl ?_
            show Steps p.tables e below (T13.setTop (mkF m 53 #[.val (.int p1), .val (.int p2), .val (.int p3), .val (.int p4), .val (.ref b1), .val (.int (Int32.ofNat s_)), .unset, .unset] [(.int (p4 &&& (2147483647 : Int32)))])) _
            refine XS.iconst X13.here hx rfl (hb hby at_53) ?_
            show Steps p.tables e below (T13.setTop (mkF m 54 #[.val (.int p1), .val (.int p2), .val (.int p3), .val (.int p4), .val (.ref b1), .val (.int (Int32.ofNat s_)), .unset, .unset] [(.int (5 : Int32)), (.int (p4 &&& (2147483647 : Int32)))])) _
            refine iremM X13 hx rfl (hb hby at_54) rfl (by decide) ?_
            show Steps p.tables e below (T13.setTop (mkF m 55 #[.val (.int p1), .val (.int p2), .val (.int p3), .val (.int p4), .val (.ref b1), .val (.int (Int32.ofNat s_)), .unset, .unset] [(.int ((p4 &&& (2147483647 : Int32)) % (5 : Int32)))])) _
            rw [ee]
            show Steps p.tables e below (T13.setTop (mkF m 55 #[.val (.int p1), .val (.int p2), .val (.int p3), .val (.int p4), .val (.ref b1), .val (.int (Int32.ofNat s_)), .unset, .unset] [(.int (Int32.ofNat e_))])) _
            refine XS.istore X13.here hx rfl (hb hby at_55) rfl (l' := #[.val (.int p1), .val (.int p2), .val (.int p3), .val (.int p4), .val (.ref b1), .val (.int (Int32.ofNat s_)), .val (.int (Int32.ofNat e_)), .unset]) rfl ?_
            show Steps p.tables e below (T13.setTop (mkF m 57 #[.val (.int p1), .val (.int p2), .val (.int p3), .val (.int p4), .val (.ref b1), .val (.int (Int32.ofNat s_)), .val (.int (Int32.ofNat e_)), .unset] [])) _
            refine XS.aload X13.here hx rfl (hb hby at_57) rfl rfl ?_
            show Steps p.tables e below (T13.setTop (mkF m 59 #[.val (.int p1), .val (.int p2), .val (.int p3), .val (.int p4), .val (.ref b1), .val (.int (Int32.ofNat s_)), .val (.int (Int32.ofNat e_)), .unset] [(.ref b1)])) _
            refine XS.iconst X13.here hx rfl (hb hby at_59) ?_
            show Steps p.tables e below (T13.setTop (mkF m 60 #[.val (.int p1), .val (.int p2), .val (.int p3), .val (.int p4), .val (.ref b1), .val (.int (Int32.ofNat s_)), .val (.int (Int32.ofNat e_)), .unset] [(.int (0 : Int32)), (.ref b1)])) _
            refine X13.caload hx (j := (0 : Int32)) (v := (.int (nar .char (nar .char (p1 &&& (65535 : Int32)))))) (by rw [e13]; exact Ar15.1) (State.isArrayOf_alike hZ.alike Ar15.2.1) Ar15.2.2 hin15 hat15 (g := (mkF m 60 #[.val (.int p1), .val (.int p2), .val (.int p3), .val (.int p4), .val (.ref b1), .val (.int (Int32.ofNat s_)), .val (.int (Int32.ofNat e_)), .unset] [(.int (0 : Int32)), (.ref b1)])) rfl rfl (hb hby at_60) _ ?_
            show Steps p.tables e below (T13.setTop (mkF m 61 #[.val (.int p1), .val (.int p2), .val (.int p3), .val (.int p4), .val (.ref b1), .val (.int (Int32.ofNat s_)), .val (.int (Int32.ofNat e_)), .unset] [(.int (nar .char (nar .char (p1 &&& (65535 : Int32)))))])) _
            refine XS.iconst X13.here hx rfl (hb hby at_61) ?_
            show Steps p.tables e below (T13.setTop (mkF m 62 #[.val (.int p1), .val (.int p2), .val (.int p3), .val (.int p4), .val (.ref b1), .val (.int (Int32.ofNat s_)), .val (.int (Int32.ofNat e_)), .unset] [(.int (0 : Int32)), (.int (nar .char (nar .char (p1 &&& (65535 : Int32)))))])) _
            refine XS.iload X13.here hx rfl (hb hby at_62) rfl ?_
            show Steps p.tables e below (T13.setTop (mkF m 64 #[.val (.int p1), .val (.int p2), .val (.int p3), .val (.int p4), .val (.ref b1), .val (.int (Int32.ofNat s_)), .val (.int (Int32.ofNat e_)), .unset] [(.int (Int32.ofNat s_)), (.int (0 : Int32)), (.int (nar .char (nar .char (p1 &&& (65535 : Int32)))))])) _
            refine XS.iload X13.here hx rfl (hb hby at_64) rfl ?_
            show Steps p.tables e below (T13.setTop (mkF m 66 #[.val (.int p1), .val (.int p2), .val (.int p3), .val (.int p4), .val (.ref b1), .val (.int (Int32.ofNat s_)), .val (.int (Int32.ofNat e_)), .unset] [(.int (Int32.ofNat e_)), (.int (Int32.ofNat s_)), (.int (0 : Int32)), (.int (nar .char (nar .char (p1 &&& (65535 : Int32)))))])) _
            refine st16 _ ?_
            show Steps p.tables e below (T16.setTop (mkF m 69 #[.val (.int p1), .val (.int p2), .val (.int p3), .val (.int p4), .val (.ref b1), .val (.int (Int32.ofNat s_)), .val (.int (Int32.ofNat e_)), .unset] [(.int (own_ok (nar .char (nar .char (p1 &&& (65535 : Int32)))) (0 : Int32) (Int32.ofNat s_) (Int32.ofNat e_)))])) _
            refine XS.ifNo X16.here hx rfl (hb hby at_69) rfl ((if0 _ _).trans (feq (ht0 : ¬ ((own_ok (nar .char (nar .char (p1 &&& (65535 : Int32)))) (0 : Int32) (Int32.ofNat s_) (Int32.ofNat e_)) = (0 : Int32)))).1) ?_
            show Steps p.tables e below (T16.setTop (mkF m 72 #[.val (.int p1), .val (.int p2), .val (.int p3), .val (.int p4), .val (.ref b1), .val (.int (Int32.ofNat s_)), .val (.int (Int32.ofNat e_)), .unset] [])) _
            refine XS.aload X16.here hx rfl (hb hby at_72) rfl rfl ?_
            show Steps p.tables e below (T16.setTop (mkF m 74 #[.val (.int p1), .val (.int p2), .val (.int p3), .val (.int p4), .val (.ref b1), .val (.int (Int32.ofNat s_)), .val (.int (Int32.ofNat e_)), .unset] [(.ref b1)])) _
            refine XS.iconst X16.here hx rfl (hb hby at_74) ?_
            show Steps p.tables e below (T16.setTop (mkF m 75 #[.val (.int p1), .val (.int p2), .val (.int p3), .val (.int p4), .val (.ref b1), .val (.int (Int32.ofNat s_)), .val (.int (Int32.ofNat e_)), .unset] [(.int (1 : Int32)), (.ref b1)])) _
            refine X16.caload hx (j := (1 : Int32)) (v := (.int (nar .char (nar .char (own_xs p1))))) (by rw [e16]; exact Ar17.1) (State.isArrayOf_alike hZ.alike Ar17.2.1) Ar17.2.2 hin17 hat17 (g := (mkF m 75 #[.val (.int p1), .val (.int p2), .val (.int p3), .val (.int p4), .val (.ref b1), .val (.int (Int32.ofNat s_)), .val (.int (Int32.ofNat e_)), .unset] [(.int (1 : Int32)), (.ref b1)])) rfl rfl (hb hby at_75) _ ?_
            show Steps p.tables e below (T16.setTop (mkF m 76 #[.val (.int p1), .val (.int p2), .val (.int p3), .val (.int p4), .val (.ref b1), .val (.int (Int32.ofNat s_)), .val (.int (Int32.ofNat e_)), .unset] [(.int (nar .char (nar .char (own_xs p1))))])) _
            refine XS.iconst X16.here hx rfl (hb hby at_76) ?_
            show Steps p.tables e below (T16.setTop (mkF m 77 #[.val (.int p1), .val (.int p2), .val (.int p3), .val (.int p4), .val (.ref b1), .val (.int (Int32.ofNat s_)), .val (.int (Int32.ofNat e_)), .unset] [(.int (1 : Int32)), (.int (nar .char (nar .char (own_xs p1))))])) _
            refine XS.iload X16.here hx rfl (hb hby at_77) rfl ?_
            show Steps p.tables e below (T16.setTop (mkF m 79 #[.val (.int p1), .val (.int p2), .val (.int p3), .val (.int p4), .val (.ref b1), .val (.int (Int32.ofNat s_)), .val (.int (Int32.ofNat e_)), .unset] [(.int (Int32.ofNat s_)), (.int (1 : Int32)), (.int (nar .char (nar .char (own_xs p1))))])) _
            refine XS.iload X16.here hx rfl (hb hby at_79) rfl ?_
            show Steps p.tables e below (T16.setTop (mkF m 81 #[.val (.int p1), .val (.int p2), .val (.int p3), .val (.int p4), .val (.ref b1), .val (.int (Int32.ofNat s_)), .val (.int (Int32.ofNat e_)), .unset] [(.int (Int32.ofNat e_)), (.int (Int32.ofNat s_)), (.int (1 : Int32)), (.int (nar .char (nar .char (own_xs p1))))])) _
            refine st18 _ ?_
            show Steps p.tables e below (T18.setTop (mkF m 84 #[.val (.int p1), .val (.int p2), .val (.int p3), .val (.int p4), .val (.ref b1), .val (.int (Int32.ofNat s_)), .val (.int (Int32.ofNat e_)), .unset] [(.int (own_ok (nar .char (nar .char (own_xs p1))) (1 : Int32) (Int32.ofNat s_) (Int32.ofNat e_)))])) _
            refine XS.ifNo X18.here hx rfl (hb hby at_84) rfl ((if0 _ _).trans (feq (ht1 : ¬ ((own_ok (nar .char (nar .char (own_xs p1))) (1 : Int32) (Int32.ofNat s_) (Int32.ofNat e_)) = (0 : Int32)))).1) ?_
            show Steps p.tables e below (T18.setTop (mkF m 87 #[.val (.int p1), .val (.int p2), .val (.int p3), .val (.int p4), .val (.ref b1), .val (.int (Int32.ofNat s_)), .val (.int (Int32.ofNat e_)), .unset] [])) _
            refine XS.aload X18.here hx rfl (hb hby at_87) rfl rfl ?_
            show Steps p.tables e below (T18.setTop (mkF m 89 #[.val (.int p1), .val (.int p2), .val (.int p3), .val (.int p4), .val (.ref b1), .val (.int (Int32.ofNat s_)), .val (.int (Int32.ofNat e_)), .unset] [(.ref b1)])) _
            refine XS.iconst X18.here hx rfl (hb hby at_89) ?_
            show Steps p.tables e below (T18.setTop (mkF m 90 #[.val (.int p1), .val (.int p2), .val (.int p3), .val (.int p4), .val (.ref b1), .val (.int (Int32.ofNat s_)), .val (.int (Int32.ofNat e_)), .unset] [(.int (2 : Int32)), (.ref b1)])) _
            refine X18.caload hx (j := (2 : Int32)) (v := (.int (nar .char (nar .char (p2 &&& (65535 : Int32)))))) (by rw [e18]; exact Ar19.1) (State.isArrayOf_alike hZ.alike Ar19.2.1) Ar19.2.2 hin19 hat19 (g := (mkF m 90 #[.val (.int p1), .val (.int p2), .val (.int p3), .val (.int p4), .val (.ref b1), .val (.int (Int32.ofNat s_)), .val (.int (Int32.ofNat e_)), .unset] [(.int (2 : Int32)), (.ref b1)])) rfl rfl (hb hby at_90) _ ?_
            show Steps p.tables e below (T18.setTop (mkF m 91 #[.val (.int p1), .val (.int p2), .val (.int p3), .val (.int p4), .val (.ref b1), .val (.int (Int32.ofNat s_)), .val (.int (Int32.ofNat e_)), .unset] [(.int (nar .char (nar .char (p2 &&& (65535 : Int32)))))])) _
            refine XS.iconst X18.here hx rfl (hb hby at_91) ?_
            show Steps p.tables e below (T18.setTop (mkF m 92 #[.val (.int p1), .val (.int p2), .val (.int p3), .val (.int p4), .val (.ref b1), .val (.int (Int32.ofNat s_)), .val (.int (Int32.ofNat e_)), .unset] [(.int (2 : Int32)), (.int (nar .char (nar .char (p2 &&& (65535 : Int32)))))])) _
            refine XS.iload X18.here hx rfl (hb hby at_92) rfl ?_
            show Steps p.tables e below (T18.setTop (mkF m 94 #[.val (.int p1), .val (.int p2), .val (.int p3), .val (.int p4), .val (.ref b1), .val (.int (Int32.ofNat s_)), .val (.int (Int32.ofNat e_)), .unset] [(.int (Int32.ofNat s_)), (.int (2 : Int32)), (.int (nar .char (nar .char (p2 &&& (65535 : Int32)))))])) _
            refine XS.iload X18.here hx rfl (hb hby at_94) rfl ?_
            show Steps p.tables e below (T18.setTop (mkF m 96 #[.val (.int p1), .val (.int p2), .val (.int p3), .val (.int p4), .val (.ref b1), .val (.int (Int32.ofNat s_)), .val (.int (Int32.ofNat e_)), .unset] [(.int (Int32.ofNat e_)), (.int (Int32.ofNat s_)), (.int (2 : Int32)), (.int (nar .char (nar .char (p2 &&& (65535 : Int32)))))])) _
            refine st20 _ ?_
            show Steps p.tables e below (T20.setTop (mkF m 99 #[.val (.int p1), .val (.int p2), .val (.int p3), .val (.int p4), .val (.ref b1), .val (.int (Int32.ofNat s_)), .val (.int (Int32.ofNat e_)), .unset] [(.int (own_ok (nar .char (nar .char (p2 &&& (65535 : Int32)))) (2 : Int32) (Int32.ofNat s_) (Int32.ofNat e_)))])) _
            refine XS.ifNo X20.here hx rfl (hb hby at_99) rfl ((if0 _ _).trans (feq (ht2 : ¬ ((own_ok (nar .char (nar .char (p2 &&& (65535 : Int32)))) (2 : Int32) (Int32.ofNat s_) (Int32.ofNat e_)) = (0 : Int32)))).1) ?_
            show Steps p.tables e below (T20.setTop (mkF m 102 #[.val (.int p1), .val (.int p2), .val (.int p3), .val (.int p4), .val (.ref b1), .val (.int (Int32.ofNat s_)), .val (.int (Int32.ofNat e_)), .unset] [])) _
            refine XS.aload X20.here hx rfl (hb hby at_102) rfl rfl ?_
            show Steps p.tables e below (T20.setTop (mkF m 104 #[.val (.int p1), .val (.int p2), .val (.int p3), .val (.int p4), .val (.ref b1), .val (.int (Int32.ofNat s_)), .val (.int (Int32.ofNat e_)), .unset] [(.ref b1)])) _
            refine XS.iconst X20.here hx rfl (hb hby at_104) ?_
            show Steps p.tables e below (T20.setTop (mkF m 105 #[.val (.int p1), .val (.int p2), .val (.int p3), .val (.int p4), .val (.ref b1), .val (.int (Int32.ofNat s_)), .val (.int (Int32.ofNat e_)), .unset] [(.int (3 : Int32)), (.ref b1)])) _
            refine X20.caload hx (j := (3 : Int32)) (v := (.int (nar .char (nar .char (own_xs p2))))) (by rw [e20]; exact Ar21.1) (State.isArrayOf_alike hZ.alike Ar21.2.1) Ar21.2.2 hin21 hat21 (g := (mkF m 105 #[.val (.int p1), .val (.int p2), .val (.int p3), .val (.int p4), .val (.ref b1), .val (.int (Int32.ofNat s_)), .val (.int (Int32.ofNat e_)), .unset] [(.int (3 : Int32)), (.ref b1)])) rfl rfl (hb hby at_105) _ ?_
            show Steps p.tables e below (T20.setTop (mkF m 106 #[.val (.int p1), .val (.int p2), .val (.int p3), .val (.int p4), .val (.ref b1), .val (.int (Int32.ofNat s_)), .val (.int (Int32.ofNat e_)), .unset] [(.int (nar .char (nar .char (own_xs p2))))])) _
            refine XS.iconst X20.here hx rfl (hb hby at_106) ?_
            show Steps p.tables e below (T20.setTop (mkF m 107 #[.val (.int p1), .val (.int p2), .val (.int p3), .val (.int p4), .val (.ref b1), .val (.int (Int32.ofNat s_)), .val (.int (Int32.ofNat e_)), .unset] [(.int (3 : Int32)), (.int (nar .char (nar .char (own_xs p2))))])) _
            refine XS.iload X20.here hx rfl (hb hby at_107) rfl ?_
            show Steps p.tables e below (T20.setTop (mkF m 109 #[.val (.int p1), .val (.int p2), .val (.int p3), .val (.int p4), .val (.ref b1), .val (.int (Int32.ofNat s_)), .val (.int (Int32.ofNat e_)), .unset] [(.int (Int32.ofNat s_)), (.int (3 : Int32)), (.int (nar .char (nar .char (own_xs p2))))])) _
            refine XS.iload X20.here hx rfl (hb hby at_109) rfl ?_
            show Steps p.tables e below (T20.setTop (mkF m 111 #[.val (.int p1), .val (.int p2), .val (.int p3), .val (.int p4), .val (.ref b1), .val (.int (Int32.ofNat s_)), .val (.int (Int32.ofNat e_)), .unset] [(.int (Int32.ofNat e_)), (.int (Int32.ofNat s_)), (.int (3 : Int32)), (.int (nar .char (nar .char (own_xs p2))))])) _
            refine st22 _ ?_
            show Steps p.tables e below (T22.setTop (mkF m 114 #[.val (.int p1), .val (.int p2), .val (.int p3), .val (.int p4), .val (.ref b1), .val (.int (Int32.ofNat s_)), .val (.int (Int32.ofNat e_)), .unset] [(.int (own_ok (nar .char (nar .char (own_xs p2))) (3 : Int32) (Int32.ofNat s_) (Int32.ofNat e_)))])) _
            refine XS.ifNo X22.here hx rfl (hb hby at_114) rfl ((if0 _ _).trans (feq (ht3 : ¬ ((own_ok (nar .char (nar .char (own_xs p2))) (3 : Int32) (Int32.ofNat s_) (Int32.ofNat e_)) = (0 : Int32)))).1) ?_
            show Steps p.tables e below (T22.setTop (mkF m 117 #[.val (.int p1), .val (.int p2), .val (.int p3), .val (.int p4), .val (.ref b1), .val (.int (Int32.ofNat s_)), .val (.int (Int32.ofNat e_)), .unset] [])) _
            refine XS.iconst X22.here hx rfl (hb hby at_117) ?_
            show Steps p.tables e below (T22.setTop (mkF m 118 #[.val (.int p1), .val (.int p2), .val (.int p3), .val (.int p4), .val (.ref b1), .val (.int (Int32.ofNat s_)), .val (.int (Int32.ofNat e_)), .unset] [(.int (1 : Int32))])) _
            refine XS.goto X22.here hx rfl (pc0 := 118) (pc' := 122) rfl (hb hby at_118) (by decide) (by decide) ?_
            show Steps p.tables e below (T22.setTop (mkF m 122 #[.val (.int p1), .val (.int p2), .val (.int p3), .val (.int p4), .val (.ref b1), .val (.int (Int32.ofNat s_)), .val (.int (Int32.ofNat e_)), .unset] [(.int (1 : Int32))])) _
            refine XS.istore X22.here hx rfl (hb hby at_122) rfl (l' := #[.val (.int p1), .val (.int p2), .val (.int p3), .val (.int p4), .val (.ref b1), .val (.int (Int32.ofNat s_)), .val (.int (Int32.ofNat e_)), .val (.int (1 : Int32))]) rfl ?_
            show Steps p.tables e below (T22.setTop (mkF m 124 #[.val (.int p1), .val (.int p2), .val (.int p3), .val (.int p4), .val (.ref b1), .val (.int (Int32.ofNat s_)), .val (.int (Int32.ofNat e_)), .val (.int (1 : Int32))] [])) _
            refine XS.aload X22.here hx rfl (hb hby at_124) rfl rfl ?_
            show Steps p.tables e below (T22.setTop (mkF m 126 #[.val (.int p1), .val (.int p2), .val (.int p3), .val (.int p4), .val (.ref b1), .val (.int (Int32.ofNat s_)), .val (.int (Int32.ofNat e_)), .val (.int (1 : Int32))] [(.ref b1)])) _
            refine XS.iload X22.here hx rfl (hb hby at_126) rfl ?_
            show Steps p.tables e below (T22.setTop (mkF m 128 #[.val (.int p1), .val (.int p2), .val (.int p3), .val (.int p4), .val (.ref b1), .val (.int (Int32.ofNat s_)), .val (.int (Int32.ofNat e_)), .val (.int (1 : Int32))] [(.int (Int32.ofNat s_)), (.ref b1)])) _
            refine XS.iload X22.here hx rfl (hb hby at_128) rfl ?_
            show Steps p.tables e below (T22.setTop (mkF m 130 #[.val (.int p1), .val (.int p2), .val (.int p3), .val (.int p4), .val (.ref b1), .val (.int (Int32.ofNat s_)), .val (.int (Int32.ofNat e_)), .val (.int (1 : Int32))] [(.int (Int32.ofNat e_)), (.int (Int32.ofNat s_)), (.ref b1)])) _
            refine st23 _ ?_
            show Steps p.tables e below (T23.setTop (mkF m 133 #[.val (.int p1), .val (.int p2), .val (.int p3), .val (.int p4), .val (.ref b1), .val (.int (Int32.ofNat s_)), .val (.int (Int32.ofNat e_)), .val (.int (1 : Int32))] [(.int (own_fold (own_f (nar .char (nar .char (p1 &&& (65535 : Int32)))) (nar .char (nar .char (own_xs p1))) (nar .char (nar .char (p2 &&& (65535 : Int32)))) (nar .char (nar .char (own_xs p2)))) (1 : Int32) s_ (e_ - s_)))])) _
            refine XS.iload X23.here hx rfl (hb hby at_133) rfl ?_
            show Steps p.tables e below (T23.setTop (mkF m 135 #[.val (.int p1), .val (.int p2), .val (.int p3), .val (.int p4), .val (.ref b1), .val (.int (Int32.ofNat s_)), .val (.int (Int32.ofNat e_)), .val (.int (1 : Int32))] [(.int (1 : Int32)), (.int (own_fold (own_f (nar .char (nar .char (p1 &&& (65535 : Int32)))) (nar .char (nar .char (own_xs p1))) (nar .char (nar .char (p2 &&& (65535 : Int32)))) (nar .char (nar .char (own_xs p2)))) (1 : Int32) s_ (e_ - s_)))])) _
            refine XS.icmpNo X23.here hx rfl (hb hby at_135) rfl (teq (by rw [own_fin (nar .char (nar .char (p1 &&& (65535 : Int32)))) (nar .char (nar .char (own_xs p1))) (nar .char (nar .char (p2 &&& (65535 : Int32)))) (nar .char (nar .char (own_xs p2))) s_ e_ hs4 he4, own_e, if_neg ht0, if_neg ht1, if_neg ht2, if_neg ht3] : (own_fold (own_f (nar .char (nar .char (p1 &&& (65535 : Int32)))) (nar .char (nar .char (own_xs p1))) (nar .char (nar .char (p2 &&& (65535 : Int32)))) (nar .char (nar .char (own_xs p2)))) (1 : Int32) s_ (e_ - s_)) = (1 : Int32))).2 ?_
            show Steps p.tables e below (T23.setTop (mkF m 138 #[.val (.int p1), .val (.int p2), .val (.int p3), .val (.int p4), .val (.ref b1), .val (.int (Int32.ofNat s_)), .val (.int (Int32.ofNat e_)), .val (.int (1 : Int32))] [])) _
            refine XS.iconst X23.here hx rfl (hb hby at_138) ?_
            show Steps p.tables e below (T23.setTop (mkF m 139 #[.val (.int p1), .val (.int p2), .val (.int p3), .val (.int p4), .val (.ref b1), .val (.int (Int32.ofNat s_)), .val (.int (Int32.ofNat e_)), .val (.int (1 : Int32))] [(.int (1 : Int32))])) _
            refine XS.goto X23.here hx rfl (pc0 := 139) (pc' := 143) rfl (hb hby at_139) (by decide) (by decide) ?_
            show Steps p.tables e below (T23.setTop (mkF m 143 #[.val (.int p1), .val (.int p2), .val (.int p3), .val (.int p4), .val (.ref b1), .val (.int (Int32.ofNat s_)), .val (.int (Int32.ofNat e_)), .val (.int (1 : Int32))] [(.int (1 : Int32))])) _
            exact retN X23 hx (t := .boolean) Bd.returns (by simp) (hb hby at_143) hr
          · show Qrm0 Z p1 p2 p3 p4  h0 n0 _ T23.heap _
            rw [e23]
            exact ⟨rfl, N23⟩
set_option maxRecDepth 65536 in
set_option maxHeartbeats 40000000 in
theorem comes_1 {Post : Tables → Env → Array Value → State → Outcome → State → Prop} (hpost : ∀ tb e args s v u, (limb_1_1.after args s (.returned v) u = true ∧ limb_1_2.after args s (.returned v) u = true ∧ True) → FrameEnd s (.returned v) u (Jvm.fieldLocs frame_1_writes args s ++ Jvm.arrayLocs frame_1_arrays args s ++ Jvm.staticLocs frame_1_statics s) 16 128 → Post tb e args s (.returned v) u) :
    ArmFor flags0 classFile x code maxLocals ret World_1 tables_1 room_1 Calls_1 rest_1 Pre_1 Post := by
  intro l hfl _ _ p e ha hc hk s m args below hf hA hF happ hP
  obtain ⟨hcalls, hrest, hpre⟩ := hP
  obtain ⟨-, -, -, hnamed, -, -, -, hat⟩ := (Spec.applies_iff hf).mp happ
  obtain ⟨hg, hn⟩ := and_e (Cond.before_iff.mp (show (Jvm.Cond.and given_1 narrow_1).before args s = true from hpre))
  obtain ⟨gv1, gv2⟩ := and_e hg
  obtain ⟨gv3, gv4⟩ := and_e gv2
  obtain ⟨gv5, gv6⟩ := and_e gv4
  obtain ⟨gv7, gv8⟩ := and_e gv6
  obtain ⟨w0, w1, w2, w3, rfl⟩ : ∃ w0 w1 w2 w3 : Value, args = #[w0, w1, w2, w3] := by
    have hs : args.size = 4 := by simpa [Cond.value, given_1] using gv1
    obtain ⟨L⟩ := args
    match L, hs with
    | [w0, w1, w2, w3], _ => exact ⟨w0, w1, w2, w3, rfl⟩
  have hw := fun d (hd : d ∈ tables_1) => atoms_spec (ws := Jvm.Cond.code x code maxLocals ret :: tables_1) hat d (List.mem_cons_of_mem _ hd)
  have hfit : Fit s := fun {y c} hc i hi => by
    obtain ⟨ha, rfl⟩ := Array.getElem?_eq_some_iff.mp hc
    have q := List.all_eq_true.mp ((Array.all_eq_true_iff_forall_mem.mp hF) _ (Array.getElem_mem ha)) i (List.mem_range.mpr hi)
    simpa [Array.getElem?_eq_getElem hi] using q
  obtain ⟨i0, ei0⟩ := is_v gv3
  obtain rfl : w0 = (.int i0) := Option.some.inj ei0
  obtain ⟨i1, ei1⟩ := is_v gv5
  obtain rfl : w1 = (.int i1) := Option.some.inj ei1
  obtain ⟨i2, ei2⟩ := is_v gv7
  obtain rfl : w2 = (.int i2) := Option.some.inj ei2
  obtain ⟨i3, ei3⟩ := is_v gv8
  obtain rfl : w3 = (.int i3) := Option.some.inj ei3
  obtain ⟨n, o, h1, h2, h3, _, L, rfl, ⟨rfl, N⟩, hq⟩ := rm0 l s _ hw tables_1 i0 i1 i2 i3  s.heap s.heap.size (Nat.le_refl _)  p e ha hc hk s m _ below hf ((Spec.applies_iff_loose hf).mp happ).1 ⟨rfl, State.Warmed39.refl s, rfl⟩ trivial
  refine ⟨n, _, h1, h2, h3, hpost _ _ _ _ _ _ ⟨Cond.after_iff.mpr rfl, Cond.after_iff.mpr (eq_i res_at (Term.int_eval (1)) rfl), trivial⟩ ⟨hq.1, hq.2.1, (hq.2.2.sift fun y hy => Or.inr (N y hy)).mono (by decide) (by decide)⟩⟩
theorem main_1_1 : Claimed_1_1 := comes_1 fun _ _ _ _ _ _ h hF => ⟨h.1, hF⟩
theorem main_1_2 : Claimed_1_2 := comes_1 fun _ _ _ _ _ _ h hF => ⟨h.2.1, hF⟩
end Jvm.Pilot.@@N@@
namespace Jvm.Pilot.@@N@@
open Jvm Jvm.ClassFile Sem Op Lib Jvm.Free Jvm.Stand Jvm.Pilot.@@N@@.Jvm.D
/-! MADE BY PROGRAM (witnessworld.py) out of the Statement's table words and the real class files: 11 classes; the members and pool entries that the words name. The judged class is class 1, her method 1. -/
namespace start1
open Jvm.ClassFile
def u (s : String) : CpInfo := .utf8 (stringToUtf16 s)
/-- a pool by its gaps: so many unusable entries, then the entry; so many at the end -/
def gap : Nat → List CpInfo → List CpInfo
  | 0, r => r
  | n + 1, r => .unusable :: gap n r
def poolList (es : List (Nat × CpInfo)) (last : Nat) : List CpInfo := es.foldr (fun e r => gap e.1 (e.2 :: r)) (gap last [])
def pool (es : List (Nat × CpInfo)) (last : Nat) : Array CpInfo := ⟨poolList es last⟩
def fileOf (pool : Array CpInfo) (this : Nat) (attrs : Array Attribute := #[]) (ms : Array MethodInfo := #[]) (fl : Nat := 33) (sup : Nat := 0) (ifs : Array Nat := #[]) (fds : Array FieldInfo := #[]) : ClassFile where
  minorVersion := 0
  majorVersion := 65
  constantPool := pool
  accessFlags := fl
  thisClass := this
  superClass := sup
  interfaces := ifs
  fields := fds
  methods := ms
  attributes := attrs
def plain (name : String) (sup : Option ClassId) : Class where
  name := name
  kind := .ordinary
  loader := none
  accessFlags := 33
  super := sup
  interfaces := #[]
  cf := none
  fields := #[]
  methods := #[]
  instanceTypes := #[]
  staticTypes := #[]
  resolved := #[]
  callSites := []
  init := .initialized
  statics := none
  mirror := none

def pool0 : Array CpInfo := pool [(5, u "<init>"), (0, u "()V"), (1, .class_ 10), (1, u "java/lang/Object")] 113

def k0m0 : Method := { name := "<init>", desc := "()V", sig := { parameters := [], returnType := none }, accessFlags := 1, code := none }
/-- java/lang/Object -/
def k0 : Class := { plain "java/lang/Object" none with
  accessFlags := 33
  interfaces := #[]
  cf := some (fileOf pool0 8 #[] #[{ accessFlags := 1, nameIndex := 5, descriptorIndex := 6, attributes := #[] }] 33 0 #[] #[])
  fields := #[]
  methods := #[k0m0]
  instanceTypes := #[]
  staticTypes := #[]
  resolved := Array.replicate 124 none
  statics := none }

def pool1 : Array CpInfo := pool [(2, .class_ 4), (1, u "java/lang/Object"), (0, u "<init>"), (0, u "()V"), (0, .integer 65535), (0, .integer 2147483647), (0, .methodref 10 11), (0, .class_ 12), (0, .nameAndType 13 14), (0, u "com/example/tipple/tipple/IdsIsPrintableAsciiPinLaw"), (0, u "ok"), (0, u "(CIII)Z"), (0, .methodref 16 17), (0, .class_ 18), (0, .nameAndType 19 20), (0, u "com/example/tipple/tipple/Ids"), (0, u "isPrintableAscii"), (0, u "([CII)Z"), (2, u "law"), (0, u "(IIII)Z")] 5

def k1m0 : Method := { name := "<init>", desc := "()V", sig := { parameters := [], returnType := none }, accessFlags := 2, code := none }
def k1c1 : Code := { maxStack := 4, maxLocals := 8, code := code, exceptionTable := #[], attributes := #[] }
def k1m1 : Method := { name := "law", desc := "(IIII)Z", sig := { parameters := [.int, .int, .int, .int], returnType := some .boolean }, accessFlags := 9, code := some k1c1 }
def k1c2 : Code := { maxStack := 2, maxLocals := 5, code := method_3_code, exceptionTable := #[], attributes := #[] }
def k1m2 : Method := { name := "ok", desc := "(CIII)Z", sig := { parameters := [.char, .int, .int, .int], returnType := some .boolean }, accessFlags := 10, code := some k1c2 }
/-- com/example/tipple/tipple/IdsIsPrintableAsciiPinLaw -/
def k1 : Class := { plain "com/example/tipple/tipple/IdsIsPrintableAsciiPinLaw" (some 0) with
  accessFlags := 49
  interfaces := #[]
  cf := some (fileOf pool1 10 #[] #[{ accessFlags := 2, nameIndex := 5, descriptorIndex := 6, attributes := #[] }, { accessFlags := 9, nameIndex := 23, descriptorIndex := 24, attributes := #[] }, { accessFlags := 10, nameIndex := 13, descriptorIndex := 14, attributes := #[] }] 49 2 #[] #[])
  fields := #[]
  methods := #[k1m0, k1m1, k1m2]
  instanceTypes := #[]
  staticTypes := #[]
  resolved := Array.replicate 30 none
  statics := none }

def pool2 : Array CpInfo := pool [(2, .class_ 4), (1, u "java/lang/Object"), (0, u "<init>"), (0, u "()V"), (0, .class_ 8), (0, u "com/example/tipple/tipple/Ids"), (10, u "isPrintableAscii"), (0, u "([CII)Z"), (77, u "MAX_LENGTH"), (0, u "I"), (2, u "FORMULA_STARTS"), (0, u "Ljava/lang/String;"), (0, u "BRAILLE_PATTERN_BLANK")] 38

def k2m0 : Method := { name := "<init>", desc := "()V", sig := { parameters := [], returnType := none }, accessFlags := 2, code := none }
def k2c1 : Code := { maxStack := 3, maxLocals := 5, code := prog_29_method_3_code, exceptionTable := #[], attributes := #[] }
def k2m1 : Method := { name := "isPrintableAscii", desc := "([CII)Z", sig := { parameters := [(.array .char), .int, .int], returnType := some .boolean }, accessFlags := 8, code := some k2c1 }
/-- com/example/tipple/tipple/Ids -/
def k2 : Class := { plain "com/example/tipple/tipple/Ids" (some 0) with
  accessFlags := 48
  interfaces := #[]
  cf := some (fileOf pool2 7 #[] #[{ accessFlags := 2, nameIndex := 5, descriptorIndex := 6, attributes := #[] }, { accessFlags := 8, nameIndex := 19, descriptorIndex := 20, attributes := #[] }] 48 2 #[] #[{ accessFlags := 26, nameIndex := 98, descriptorIndex := 99, attributes := #[] }, { accessFlags := 26, nameIndex := 102, descriptorIndex := 103, attributes := #[] }, { accessFlags := 26, nameIndex := 104, descriptorIndex := 99, attributes := #[] }])
  fields := #[{ name := "MAX_LENGTH", type := .int, accessFlags := 26, slot := 0, constantValue := 0 }, { name := "FORMULA_STARTS", type := (.object "java/lang/String"), accessFlags := 26, slot := 1, constantValue := 0 }, { name := "BRAILLE_PATTERN_BLANK", type := .int, accessFlags := 26, slot := 2, constantValue := 0 }]
  methods := #[k2m0, k2m1]
  instanceTypes := #[]
  staticTypes := #[.int, (.object "java/lang/String"), .int]
  resolved := Array.replicate 143 none
  statics := none }

def pool3 : Array CpInfo := pool [(1, u "java/lang/Cloneable"), (0, .class_ 1), (0, u "java/lang/Object"), (0, .class_ 3)] 3

/-- java/lang/Cloneable -/
def k3 : Class := { plain "java/lang/Cloneable" (some 0) with
  accessFlags := 1537
  interfaces := #[]
  cf := some (fileOf pool3 2 #[] #[] 1537 4 #[] #[])
  fields := #[]
  methods := #[]
  instanceTypes := #[]
  staticTypes := #[]
  resolved := Array.replicate 8 none
  statics := none }

def pool4 : Array CpInfo := pool [(1, u "java/io/Serializable"), (0, .class_ 1), (0, u "java/lang/Object"), (0, .class_ 3)] 3

/-- java/io/Serializable -/
def k4 : Class := { plain "java/io/Serializable" (some 0) with
  accessFlags := 1537
  interfaces := #[]
  cf := some (fileOf pool4 2 #[] #[] 1537 4 #[] #[])
  fields := #[]
  methods := #[]
  instanceTypes := #[]
  staticTypes := #[]
  resolved := Array.replicate 8 none
  statics := none }

/-- the primitive byte -/
def k5 : Class := { plain "byte" none with kind := .primitive 'B', accessFlags := 0x411 }
/-- [B -/
def k6 : Class := { plain "[B" (some 0) with kind := .array 5 .byte, interfaces := #[3, 4], accessFlags := 1041 }

/-- the primitive char -/
def k7 : Class := { plain "char" none with kind := .primitive 'C', accessFlags := 0x411 }
/-- [C -/
def k8 : Class := { plain "[C" (some 0) with kind := .array 7 .char, interfaces := #[3, 4], accessFlags := 1041 }

/-- the primitive int -/
def k9 : Class := { plain "int" none with kind := .primitive 'I', accessFlags := 0x411 }
/-- [I -/
def k10 : Class := { plain "[I" (some 0) with kind := .array 9 .int, interfaces := #[3, 4], accessFlags := 1041 }

def heap : Heap := #[]
def classes : Array Class := #[k0, k1, k2, k3, k4, k5, k6, k7, k8, k9, k10]
def interned : List (Array UInt16 × Addr) := []
def slotsUsed : Nat := 0
def theMethod : MethodId := ⟨1, 1⟩
def args0 : Array Value := #[.int 5, .int 7, .int 9, .int 11]
def aboutOver (below : List Frame) : State where
  vm := { classes := classes, interned := interned.toArray }
  heap := heap
  slotsUsed := slotsUsed
  threads := #[{ frames := .invoking theMethod args0 :: below }]
def below0 : List Frame := [.native { method := ⟨0, 0⟩, args := #[] }]
def about1 : State := aboutOver below0
def p0 : Program := .bare "" "" ""
def e0 : Env := launch0.env 0 0 0
theorem w_frames : about1.frames = Frame.invoking theMethod args0 :: below0 := rfl
set_option maxRecDepth 65536 in
theorem w_args : argsFit about1.vm theMethod args0 = true := by decide +kernel
set_option maxRecDepth 65536 in
theorem w_heap : heapFits about1 = true := by decide +kernel
set_option maxRecDepth 65536 in
theorem w_runnable : about1.curStatus? = some .runnable := by decide +kernel
set_option maxRecDepth 65536 in
theorem w_alone : about1.alone = true := by decide +kernel
set_option maxRecDepth 65536 in
theorem w_named : about1.methodNamed? x = some theMethod := by decide +kernel
set_option maxRecDepth 65536 in
theorem w_hears : about1.hears theMethod below0 = true := by decide +kernel
set_option maxRecDepth 65536 in
theorem w_ripe : about1.ripe theMethod args0 below0 = true := by decide +kernel
theorem w_running : about1.status = .running := rfl
set_option maxRecDepth 65536 in
theorem w_room : about1.hasRoom e0.platform room_1 = true :=
  launch0.hasRoom_least _ room_1 (by decide +kernel) (by decide +kernel) (by decide +kernel) (by decide +kernel) (by decide +kernel) (by decide +kernel)
theorem allAtoms_all (ts : List Jvm.Cond) (a : Array Jvm.Value) (st : Jvm.State) : (allAtoms ts).before a st = ts.all (fun c => c.before a st) := by
  induction ts with
  | nil => rfl
  | cons c t ih =>
    show (Jvm.Cond.and c (allAtoms t)).before a st = _
    rw [Jvm.Cond.before_and, ih, List.all_cons]
def words1 : List Jvm.Cond := Jvm.Cond.code x code maxLocals ret :: tables_1
/-- a 'code' word, met by the world's own term for the bytes: nothing is compared byte by byte -/
theorem code_word {y : MethodName} {bytes : ByteArray} {mx : Nat} {rt : Option FieldType} {a : Array Value} {s : State} {m : MethodId} {meth : Method} {c : Code} (h1 : s.methodNamed? y = some m) (h2 : s.vm.method? m = some meth) (h3 : meth.code = some c) (h4 : c.code = bytes)
    (h5 : (c.maxLocals == mx && c.exceptionTable.isEmpty && decide (c.maxStack ≤ mostOperands) && decide (meth.sig.returnType = rt) && !meth.locks && decide (parseMethodDescriptor y.desc = some meth.sig)) = true) : (Jvm.Cond.code y bytes mx rt).before a s = true := by
  simp only [Bool.and_eq_true, beq_iff_eq, Bool.not_eq_true', decide_eq_true_eq] at h5
  obtain ⟨⟨⟨⟨⟨g1, g2⟩, g3⟩, g4⟩, g5⟩, g6⟩ := h5
  simp [Cond.before, Cond.holds, Cond.value, h1, h2, h3, h4, g1, g2, g3, g4, g5, g6]
def isCode : Jvm.Cond → Bool
  | .code _ _ _ _ => true
  | _ => false
theorem all_split {L : List Jvm.Cond} {P : Jvm.Cond → Bool} (h1 : L.all (fun c => isCode c || P c) = true) (h2 : ∀ c ∈ L.filter isCode, P c = true) : L.all P = true := by
  refine List.all_eq_true.mpr fun c hc => ?_
  have h := List.all_eq_true.mp h1 c hc
  rcases Bool.eq_false_or_eq_true (isCode c) with hi | hi
  · exact h2 c (List.mem_filter.mpr ⟨hc, hi⟩)
  · simpa [hi] using h
set_option maxRecDepth 65536 in
theorem w_c0 : (Jvm.Cond.code x code maxLocals ret).before args0 about1 = true := code_word (m := ⟨1, 1⟩) (meth := k1m1) (c := k1c1) (by decide +kernel) rfl rfl rfl (by decide +kernel)
set_option maxRecDepth 65536 in
theorem w_c1 : (Jvm.Cond.code ({ cls := "com/example/tipple/tipple/IdsIsPrintableAsciiPinLaw", name := "ok", desc := "(CIII)Z" } : Jvm.MethodName) method_3_code (5 : Nat) (Option.some Jvm.ClassFile.FieldType.boolean)).before args0 about1 = true := code_word (m := ⟨1, 2⟩) (meth := k1m2) (c := k1c2) (by decide +kernel) rfl rfl rfl (by decide +kernel)
set_option maxRecDepth 65536 in
theorem w_c2 : (Jvm.Cond.code ({ cls := "com/example/tipple/tipple/Ids", name := "isPrintableAscii", desc := "([CII)Z" } : Jvm.MethodName) prog_29_method_3_code (5 : Nat) (Option.some Jvm.ClassFile.FieldType.boolean)).before args0 about1 = true := code_word (m := ⟨2, 1⟩) (meth := k2m1) (c := k2c1) (by decide +kernel) rfl rfl rfl (by decide +kernel)
def codes1 : List Jvm.Cond := [Jvm.Cond.code x code maxLocals ret, Jvm.Cond.code ({ cls := "com/example/tipple/tipple/IdsIsPrintableAsciiPinLaw", name := "ok", desc := "(CIII)Z" } : Jvm.MethodName) method_3_code (5 : Nat) (Option.some Jvm.ClassFile.FieldType.boolean), Jvm.Cond.code ({ cls := "com/example/tipple/tipple/Ids", name := "isPrintableAscii", desc := "([CII)Z" } : Jvm.MethodName) prog_29_method_3_code (5 : Nat) (Option.some Jvm.ClassFile.FieldType.boolean)]
set_option maxRecDepth 65536 in
theorem codes_eq : words1.filter isCode = codes1 := rfl
theorem w_codes : ∀ c ∈ words1.filter isCode, c.before args0 about1 = true := by
  rw [codes_eq]
  intro c hc
  simp only [codes1, List.mem_cons, List.not_mem_nil, or_false] at hc
  rcases hc with rfl | rfl | rfl
  · exact w_c0
  · exact w_c1
  · exact w_c2
set_option maxRecDepth 65536 in
theorem w_t1 : words1.all (fun c => isCode c || c.before args0 about1) = true := by decide +kernel
theorem w_tables : (allAtoms (Jvm.Cond.code x code maxLocals ret :: tables_1)).before args0 about1 = true := by
  rw [allAtoms_all]
  show words1.all (fun c => c.before args0 about1) = true
  refine all_split ?_ w_codes
  rw [w_t1]
set_option maxRecDepth 65536 in
theorem w_case : (Jvm.Cond.and given_1 narrow_1).before args0 about1 = true := by decide +kernel
theorem w_applies : (headSpec (Jvm.Cond.code x code maxLocals ret :: tables_1) room_1).applies x e0.platform about1 = true :=
  (Spec.applies_iff w_frames).mpr ⟨w_running, w_runnable, w_alone, w_named, w_hears, w_ripe, w_room, w_tables⟩
theorem atStart : AtStart classFile x code maxLocals ret World_1 tables_1 room_1 Calls_1 rest_1 Pre_1 launch0 p0 e0 about1 theMethod args0 below0 :=
  ⟨lists_1, trivial, launch0.admits_env _ _ _, launch0.least_env, fairChoices_fair.cas, fairChoices_fair.clock, w_frames, w_args, w_heap, w_applies, trivial, trivial, w_case⟩
end start1
theorem witness_1 : WitnessClaimed_1 := ⟨start1.p0, start1.e0, start1.about1, start1.theMethod, start1.args0, start1.below0, start1.atStart⟩
end Jvm.Pilot.@@N@@
