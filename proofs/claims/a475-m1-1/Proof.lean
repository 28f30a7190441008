import JvmDerived
import JvmDerived.Pilot.@@N@@Statement
import JvmDerived.Pilot.@@N@@Code
set_option linter.unusedVariables false
set_option linter.unusedSimpArgs false
namespace Jvm.RoadKit
open Sem ClassFile Op Lib Jvm.Stand Jvm.Free Jvm.LawKit
section New
variable {p : Program} {l : Launch} {e : Env} {R : Room} {s : State} {m : MethodId} {args : Array Value} {below : List Frame} {meth : Method} {c : Code} {T : State} {locs : List Loc} {cells slots : Nat}
theorem retI (X : Stand p l e R s m args below meth c T locs cells slots) (hx : p.tables.exec = Jvm.exec) {pc : Nat} {Ls : Array Slot} {z : Int32} {rest : List Value} (hret : meth.sig.returnType = some .int) (hd : decode c.code pc = .ok (.ireturn, 1)) {fs : List Frame}
    (hl : ∀ (f : JFrame) (acts : List Action), f.method = m → f.locked = none → f.entered = [] → (doReturn e (T.setTop f) acts (some (.int z))).1 = T.setFrames fs) : Steps p.tables e below (T.setTop (mkF m pc Ls (.int z :: rest))) (T.setFrames fs) := by
  have hm' : T.vm.method? m = some meth := X.method'
  have hn : narrow .int (.int z) = .int z := rfl
  show Steps p.tables e below (T.setTop { method := m, pc := pc, locals := Ls, stack := _ :: rest, locked := none }) _
  jvm_step X.here [X.here.top, hx, hd, hm', hret, hn]
  first | (intro acts; rw [hl _ acts rfl rfl rfl]) | rw [hl _ _ rfl rfl rfl]
  exact Steps.refl _
end New
end Jvm.RoadKit
namespace Jvm.Pilot.@@N@@
open Jvm Jvm.ClassFile Sem Op Lib Jvm.Free Jvm.Stand Jvm.LawKit Jvm.RoadKit Bundle Jvm.Pilot.@@N@@.Jvm.D
def own_k (b : Int64) : Int64 := b &&& (18014398509481983 : Int64)
def own_r (o : Int32) : Int64 := ((o &&& (2147483647 : Int32)) % (480 : Int32)).toInt64
def own_rem (q : Int64) : Int64 := q - (q / (480 : Int64)) * (480 : Int64)
def own_spent (q : Int64) : Int64 := if own_rem q = 0 then q / (480 : Int64) * (512 : Int64) + (0 : Int64) else q / (480 : Int64) * (512 : Int64) + ((32 : Int64) + own_rem q)
theorem own_kb (b : Int64) : 0 ≤ (own_k b).toInt ∧ (own_k b).toInt < 18014398509481984 := by
  have h : (own_k b).toInt = b.toInt % (2 ^ 54 : Nat) := c_maskL b 18014398509481983 54 (by decide) (by decide)
  omega
theorem own_rb (o : Int32) : 0 ≤ (own_r o).toInt ∧ (own_r o).toInt < 480 := by
  have h1 : (o &&& (2147483647 : Int32)).toInt = o.toInt % (2 ^ 31 : Nat) := c_mask o 2147483647 31 (by decide) (by decide)
  have h2 := (c_irem (o &&& (2147483647 : Int32)) 480 480 (by decide)).1 (by omega)
  have h3 : (own_r o).toInt = ((o &&& (2147483647 : Int32)) % (480 : Int32)).toInt := c_i2l _
  omega
theorem own_pos (k r : Int64) (hk : 0 ≤ k.toInt ∧ k.toInt < 18014398509481984) (hr : 0 ≤ r.toInt ∧ r.toInt < 480) : (k * (480 : Int64) + r).toInt = k.toInt * 480 + r.toInt := by
  have e : (480 : Int64).toInt = 480 := by decide
  have h1 := c_lmul k 480
  rw [e] at h1
  have h2 := c_ladd (k * (480 : Int64)) r
  have b1 := Int64.le_toInt (k * (480 : Int64) + r)
  have b2 := Int64.toInt_lt (k * (480 : Int64) + r)
  have b3 := Int64.le_toInt (k * (480 : Int64))
  have b4 := Int64.toInt_lt (k * (480 : Int64))
  omega
theorem own_facts (k r : Int64) (hk : 0 ≤ k.toInt ∧ k.toInt < 18014398509481984) (hr : 0 ≤ r.toInt ∧ r.toInt < 480) : own_rem (k * (480 : Int64) + r) = r ∧ (k * (480 : Int64) + r) / (480 : Int64) = k := by
  have h := own_pos k r hk hr
  have h1 := (c_lrem (k * (480 : Int64) + r) 480 480 (by decide)).1 (by omega)
  have h2 := (c_ldiv (k * (480 : Int64) + r) 480 480 (by decide) (by decide)).1 (by omega)
  refine ⟨Int64.toInt_inj.mp ?_, Int64.toInt_inj.mp ?_⟩
  · show (k * (480 : Int64) + r - (k * (480 : Int64) + r) / 480 * 480).toInt = r.toInt
    omega
  · omega
theorem own_eq0 (b : Int64) (o : Int32) (h : own_r o = 0) : own_spent (own_k b * (480 : Int64) + own_r o) = own_k b * (512 : Int64) := by
  obtain ⟨h1, h2⟩ := own_facts (own_k b) (own_r o) (own_kb b) (own_rb o)
  unfold own_spent
  rw [h1, if_pos h, h2, Int64.add_zero]
theorem own_eq1 (b : Int64) (o : Int32) (h : ¬ own_r o = 0) : own_spent (own_k b * (480 : Int64) + own_r o) = own_k b * (512 : Int64) + (32 : Int64) + own_r o := by
  obtain ⟨h1, h2⟩ := own_facts (own_k b) (own_r o) (own_kb b) (own_rb o)
  unfold own_spent
  rw [h1, if_neg h, h2, Int64.add_assoc]
theorem d1_0 : decode prog_37_method_5_code 0 = .ok (.lload_n 0, 1) := by decide +kernel
theorem d1_1 : decode prog_37_method_5_code 1 = .ok (.ldc2_w 35, 3) := by decide +kernel
theorem d1_4 : decode prog_37_method_5_code 4 = .ok (.lrem, 1) := by decide +kernel
theorem d1_5 : decode prog_37_method_5_code 5 = .ok (.lstore_n 2, 1) := by decide +kernel
theorem d1_6 : decode prog_37_method_5_code 6 = .ok (.lload_n 0, 1) := by decide +kernel
theorem d1_7 : decode prog_37_method_5_code 7 = .ok (.ldc2_w 35, 3) := by decide +kernel
theorem d1_10 : decode prog_37_method_5_code 10 = .ok (.ldiv, 1) := by decide +kernel
theorem d1_11 : decode prog_37_method_5_code 11 = .ok (.ldc2_w 29, 3) := by decide +kernel
theorem d1_14 : decode prog_37_method_5_code 14 = .ok (.lmul, 1) := by decide +kernel
theorem d1_15 : decode prog_37_method_5_code 15 = .ok (.lload_n 2, 1) := by decide +kernel
theorem d1_16 : decode prog_37_method_5_code 16 = .ok (.lconst 0, 1) := by decide +kernel
theorem d1_17 : decode prog_37_method_5_code 17 = .ok (.lcmp, 1) := by decide +kernel
theorem d1_18 : decode prog_37_method_5_code 18 = .ok (.ifCond .ne 7, 3) := by decide +kernel
theorem d1_21 : decode prog_37_method_5_code 21 = .ok (.lconst 0, 1) := by decide +kernel
theorem d1_22 : decode prog_37_method_5_code 22 = .ok (.goto 8, 3) := by decide +kernel
theorem d1_30 : decode prog_37_method_5_code 30 = .ok (.ladd, 1) := by decide +kernel
theorem d1_31 : decode prog_37_method_5_code 31 = .ok (.lreturn, 1) := by decide +kernel
theorem d1_25 : decode prog_37_method_5_code 25 = .ok (.ldc2_w 47, 3) := by decide +kernel
theorem d1_28 : decode prog_37_method_5_code 28 = .ok (.lload_n 2, 1) := by decide +kernel
theorem d1_29 : decode prog_37_method_5_code 29 = .ok (.ladd, 1) := by decide +kernel
theorem pn_forelog_io_JournalBlocks : plainName "forelog/io/JournalBlocks" = true := by first | (simp [plainName, overriddenIn]; done) | decide +kernel
theorem ef_rm1 (m : MethodId) (x0 : Int64) : entryFrame m #[(.long x0)] 4 = mkF m 0 #[.val (.long x0), .second, .unset, .unset] [] := by first | (simp [entryFrame, mkF, argsToLocals, Value.category]; done) | rfl
def Qrm1 (Z : State) (q1 : Int64)  (h0 : Heap) (n0 : Nat) (v : Option Value) (h : Heap) (L : List Loc) : Prop := v = some (.long (own_spent q1)) ∧ Fr n0 L ∧ h = h0
set_option maxRecDepth 65536 in
set_option maxHeartbeats 40000000 in
theorem rm1 (l : Launch) (Z : State) (a0 : Array Value) (hw : ∀ d ∈ tables_1, d.before a0 Z = true) (ws : List Jvm.Cond) (q1 : Int64)  (h0 : Heap) (n0 : Nat) (Z0 : n0 ≤ h0.size)  :
    MetFree l (⟨"forelog/io/JournalBlocks", "spent", "(J)J"⟩ : MethodName) (head1 (Jvm.Cond.code (⟨"forelog/io/JournalBlocks", "spent", "(J)J"⟩ : MethodName) prog_37_method_5_code 4 (some .long) :: ws) ({ frames := 0, cells := 0, slots := 0, locals := 0 } : Room)) (fun a U => a = #[(.long q1)] ∧ Z.Warmed39 U.vm ∧ U.heap = h0) (fun _ _ _ _ _ => True) (fun _ U o U' => ∃ v L, o = .returned v ∧ Qrm1 Z q1  h0 n0 v U'.heap L ∧ FrameEnd U o U' L ({ frames := 0, cells := 0, slots := 0, locals := 0 } : Room).cells ({ frames := 0, cells := 0, slots := 0, locals := 0 } : Room).slots) := by
  refine MetFree.of_bodySF (plainFor_of_name pn_forelog_io_JournalBlocks) hisR ?_
  intro p e s m args below meth c s₁ Bd hml0 hP hK
  obtain ⟨rfl, hZ, hh⟩ := hP
  have hx := Bd.exec
  have hby := Bd.bytes
  have hml : c.maxLocals = 4 := hml0
  have hown : s.vm.findClass "forelog/io/JournalBlocks" = some m.cls := findClass_of_methodNamed Bd.named
  have hnm := (name_of_methodNamed Bd.named Bd.method).1
  have X0 : Stand p l e ({ frames := 0, cells := 0, slots := 0, locals := 0 } : Room) s m #[(.long q1)] below meth c s₁ [] 0 0 := Stand.of_body Bd
  have e0 : s₁.heap = h0 := by rw [← hh, Bd.state]; rfl
  have N0 := Fr.nil n0
  have pre0 : ∀ t, Steps p.tables e below (s₁.setTop (mkF m 0 #[.val (.long q1), .second, .unset, .unset] [])) t → Steps p.tables e below (s₁.setTop (entryFrame m #[(.long q1)] 4)) t := fun t k => castTop (ef_rm1 m q1) k
  by_cases hc : own_rem q1 = (0 : Int64)
  · obtain ⟨fs, hr, hrun, hended, hW, hsame⟩ := X0.leave (v := some (.long (((q1 / (480 : Int64)) * (512 : Int64)) + (0 : Int64)))) (fun h => by rw [Bd.returns] at h; cases h)
    refine ⟨_, _, pre0 _ ?_, hrun, hended, _, _, rfl, ?_, ⟨_, rfl⟩, hW, hsame.mono (by decide) (by decide)⟩
    · show Steps p.tables e below (s₁.setTop (mkF m 0 #[.val (.long q1), .second, .unset, .unset] [])) _
      refine XS.lloadN X0.here hx rfl (hb hby d1_0) rfl ?_
      show Steps p.tables e below (s₁.setTop (mkF m 1 #[.val (.long q1), .second, .unset, .unset] [(.long q1)])) _
      refine X0.ldc2Long hx hown (mvT hZ (hw _ (List.mem_of_getElem? (i := 9) rfl))) (g := (mkF m 1 #[.val (.long q1), .second, .unset, .unset] [(.long q1)])) rfl (hb hby d1_1) _ ?_
      show Steps p.tables e below (s₁.setTop (mkF m 4 #[.val (.long q1), .second, .unset, .unset] [(.long (480 : Int64)), (.long q1)])) _
      refine XS.lrem X0.here hx rfl (hb hby d1_4) rfl (by decide) ?_
      show Steps p.tables e below (s₁.setTop (mkF m 5 #[.val (.long q1), .second, .unset, .unset] [(.long (own_rem q1))])) _
      refine XS.lstoreN X0.here hx rfl (hb hby d1_5) rfl (l' := #[.val (.long q1), .second, .val (.long (own_rem q1)), .second]) rfl ?_
      show Steps p.tables e below (s₁.setTop (mkF m 6 #[.val (.long q1), .second, .val (.long (own_rem q1)), .second] [])) _
      refine XS.lloadN X0.here hx rfl (hb hby d1_6) rfl ?_
      show Steps p.tables e below (s₁.setTop (mkF m 7 #[.val (.long q1), .second, .val (.long (own_rem q1)), .second] [(.long q1)])) _
      refine X0.ldc2Long hx hown (mvT hZ (hw _ (List.mem_of_getElem? (i := 9) rfl))) (g := (mkF m 7 #[.val (.long q1), .second, .val (.long (own_rem q1)), .second] [(.long q1)])) rfl (hb hby d1_7) _ ?_
      show Steps p.tables e below (s₁.setTop (mkF m 10 #[.val (.long q1), .second, .val (.long (own_rem q1)), .second] [(.long (480 : Int64)), (.long q1)])) _
      refine XS.ldiv X0.here hx rfl (hb hby d1_10) rfl (by decide) ?_
      show Steps p.tables e below (s₁.setTop (mkF m 11 #[.val (.long q1), .second, .val (.long (own_rem q1)), .second] [(.long (q1 / (480 : Int64)))])) _
      refine X0.ldc2Long hx hown (mvT hZ (hw _ (List.mem_of_getElem? (i := 10) rfl))) (g := (mkF m 11 #[.val (.long q1), .second, .val (.long (own_rem q1)), .second] [(.long (q1 / (480 : Int64)))])) rfl (hb hby d1_11) _ ?_
      show Steps p.tables e below (s₁.setTop (mkF m 14 #[.val (.long q1), .second, .val (.long (own_rem q1)), .second] [(.long (512 : Int64)), (.long (q1 / (480 : Int64)))])) _
      refine XS.lmul X0.here hx rfl (hb hby d1_14) rfl ?_
      show Steps p.tables e below (s₁.setTop (mkF m 15 #[.val (.long q1), .second, .val (.long (own_rem q1)), .second] [(.long ((q1 / (480 : Int64)) * (512 : Int64)))])) _
      refine XS.lloadN X0.here hx rfl (hb hby d1_15) rfl ?_
      show Steps p.tables e below (s₁.setTop (mkF m 16 #[.val (.long q1), .second, .val (.long (own_rem q1)), .second] [(.long (own_rem q1)), (.long ((q1 / (480 : Int64)) * (512 : Int64)))])) _
      refine XS.lconst X0.here hx rfl (hb hby d1_16) ?_
      show Steps p.tables e below (s₁.setTop (mkF m 17 #[.val (.long q1), .second, .val (.long (own_rem q1)), .second] [(.long (0 : Int64)), (.long (own_rem q1)), (.long ((q1 / (480 : Int64)) * (512 : Int64)))])) _
      refine XS.lcmp X0.here hx rfl (hb hby d1_17) rfl ?_
      show Steps p.tables e below (s₁.setTop (mkF m 18 #[.val (.long q1), .second, .val (.long (own_rem q1)), .second] [(.int (lcmpW (own_rem q1) (0 : Int64))), (.long ((q1 / (480 : Int64)) * (512 : Int64)))])) _
      refine XS.ifNo X0.here hx rfl (hb hby d1_18) rfl ((if0 _ _).trans (teq ((lw_eq _ _).mpr hc : (lcmpW (own_rem q1) (0 : Int64)) = (0 : Int32))).2) ?_
      show Steps p.tables e below (s₁.setTop (mkF m 21 #[.val (.long q1), .second, .val (.long (own_rem q1)), .second] [(.long ((q1 / (480 : Int64)) * (512 : Int64)))])) _
      refine XS.lconst X0.here hx rfl (hb hby d1_21) ?_
      show Steps p.tables e below (s₁.setTop (mkF m 22 #[.val (.long q1), .second, .val (.long (own_rem q1)), .second] [(.long (0 : Int64)), (.long ((q1 / (480 : Int64)) * (512 : Int64)))])) _
      refine XS.goto X0.here hx rfl (pc0 := 22) (pc' := 30) rfl (hb hby d1_22) (by decide) (by decide) ?_
      show Steps p.tables e below (s₁.setTop (mkF m 30 #[.val (.long q1), .second, .val (.long (own_rem q1)), .second] [(.long (0 : Int64)), (.long ((q1 / (480 : Int64)) * (512 : Int64)))])) _
      refine XS.ladd X0.here hx rfl (hb hby d1_30) rfl ?_
      show Steps p.tables e below (s₁.setTop (mkF m 31 #[.val (.long q1), .second, .val (.long (own_rem q1)), .second] [(.long (((q1 / (480 : Int64)) * (512 : Int64)) + (0 : Int64)))])) _
      exact X0.lreturnOut hx Bd.returns (hb hby d1_31) hr
    · show Qrm1 Z q1  h0 n0 _ s₁.heap _
      rw [e0]
      exact ⟨by rw [own_spent, if_pos hc], N0, rfl⟩
  · obtain ⟨fs, hr, hrun, hended, hW, hsame⟩ := X0.leave (v := some (.long (((q1 / (480 : Int64)) * (512 : Int64)) + ((32 : Int64) + (own_rem q1))))) (fun h => by rw [Bd.returns] at h; cases h)
    refine ⟨_, _, pre0 _ ?_, hrun, hended, _, _, rfl, ?_, ⟨_, rfl⟩, hW, hsame.mono (by decide) (by decide)⟩
    · show Steps p.tables e below (s₁.setTop (mkF m 0 #[.val (.long q1), .second, .unset, .unset] [])) _
      refine XS.lloadN X0.here hx rfl (hb hby d1_0) rfl ?_
      show Steps p.tables e below (s₁.setTop (mkF m 1 #[.val (.long q1), .second, .unset, .unset] [(.long q1)])) _
      refine X0.ldc2Long hx hown (mvT hZ (hw _ (List.mem_of_getElem? (i := 9) rfl))) (g := (mkF m 1 #[.val (.long q1), .second, .unset, .unset] [(.long q1)])) rfl (hb hby d1_1) _ ?_
      show Steps p.tables e below (s₁.setTop (mkF m 4 #[.val (.long q1), .second, .unset, .unset] [(.long (480 : Int64)), (.long q1)])) _
      refine XS.lrem X0.here hx rfl (hb hby d1_4) rfl (by decide) ?_
      show Steps p.tables e below (s₁.setTop (mkF m 5 #[.val (.long q1), .second, .unset, .unset] [(.long (own_rem q1))])) _
      refine XS.lstoreN X0.here hx rfl (hb hby d1_5) rfl (l' := #[.val (.long q1), .second, .val (.long (own_rem q1)), .second]) rfl ?_
      show Steps p.tables e below (s₁.setTop (mkF m 6 #[.val (.long q1), .second, .val (.long (own_rem q1)), .second] [])) _
      refine XS.lloadN X0.here hx rfl (hb hby d1_6) rfl ?_
      show Steps p.tables e below (s₁.setTop (mkF m 7 #[.val (.long q1), .second, .val (.long (own_rem q1)), .second] [(.long q1)])) _
      refine X0.ldc2Long hx hown (mvT hZ (hw _ (List.mem_of_getElem? (i := 9) rfl))) (g := (mkF m 7 #[.val (.long q1), .second, .val (.long (own_rem q1)), .second] [(.long q1)])) rfl (hb hby d1_7) _ ?_
      show Steps p.tables e below (s₁.setTop (mkF m 10 #[.val (.long q1), .second, .val (.long (own_rem q1)), .second] [(.long (480 : Int64)), (.long q1)])) _
      refine XS.ldiv X0.here hx rfl (hb hby d1_10) rfl (by decide) ?_
      show Steps p.tables e below (s₁.setTop (mkF m 11 #[.val (.long q1), .second, .val (.long (own_rem q1)), .second] [(.long (q1 / (480 : Int64)))])) _
      refine X0.ldc2Long hx hown (mvT hZ (hw _ (List.mem_of_getElem? (i := 10) rfl))) (g := (mkF m 11 #[.val (.long q1), .second, .val (.long (own_rem q1)), .second] [(.long (q1 / (480 : Int64)))])) rfl (hb hby d1_11) _ ?_
      show Steps p.tables e below (s₁.setTop (mkF m 14 #[.val (.long q1), .second, .val (.long (own_rem q1)), .second] [(.long (512 : Int64)), (.long (q1 / (480 : Int64)))])) _
      refine XS.lmul X0.here hx rfl (hb hby d1_14) rfl ?_
      show Steps p.tables e below (s₁.setTop (mkF m 15 #[.val (.long q1), .second, .val (.long (own_rem q1)), .second] [(.long ((q1 / (480 : Int64)) * (512 : Int64)))])) _
      refine XS.lloadN X0.here hx rfl (hb hby d1_15) rfl ?_
      show Steps p.tables e below (s₁.setTop (mkF m 16 #[.val (.long q1), .second, .val (.long (own_rem q1)), .second] [(.long (own_rem q1)), (.long ((q1 / (480 : Int64)) * (512 : Int64)))])) _
      refine XS.lconst X0.here hx rfl (hb hby d1_16) ?_
      show Steps p.tables e below (s₁.setTop (mkF m 17 #[.val (.long q1), .second, .val (.long (own_rem q1)), .second] [(.long (0 : Int64)), (.long (own_rem q1)), (.long ((q1 / (480 : Int64)) * (512 : Int64)))])) _
      refine XS.lcmp X0.here hx rfl (hb hby d1_17) rfl ?_
      show Steps p.tables e below (s₁.setTop (mkF m 18 #[.val (.long q1), .second, .val (.long (own_rem q1)), .second] [(.int (lcmpW (own_rem q1) (0 : Int64))), (.long ((q1 / (480 : Int64)) * (512 : Int64)))])) _
      refine XS.ifYes X0.here hx rfl (pc0 := 18) (pc' := 25) rfl (hb hby d1_18) rfl ((if0 _ _).trans (feq (mt (lw_eq _ _).mp hc : ¬ ((lcmpW (own_rem q1) (0 : Int64)) = (0 : Int32)))).2) (by decide) (by decide) ?_
      show Steps p.tables e below (s₁.setTop (mkF m 25 #[.val (.long q1), .second, .val (.long (own_rem q1)), .second] [(.long ((q1 / (480 : Int64)) * (512 : Int64)))])) _
      refine X0.ldc2Long hx hown (mvT hZ (hw _ (List.mem_of_getElem? (i := 11) rfl))) (g := (mkF m 25 #[.val (.long q1), .second, .val (.long (own_rem q1)), .second] [(.long ((q1 / (480 : Int64)) * (512 : Int64)))])) rfl (hb hby d1_25) _ ?_
      show Steps p.tables e below (s₁.setTop (mkF m 28 #[.val (.long q1), .second, .val (.long (own_rem q1)), .second] [(.long (32 : Int64)), (.long ((q1 / (480 : Int64)) * (512 : Int64)))])) _
      refine XS.lloadN X0.here hx rfl (hb hby d1_28) rfl ?_
      show Steps p.tables e below (s₁.setTop (mkF m 29 #[.val (.long q1), .second, .val (.long (own_rem q1)), .second] [(.long (own_rem q1)), (.long (32 : Int64)), (.long ((q1 / (480 : Int64)) * (512 : Int64)))])) _
      refine XS.ladd X0.here hx rfl (hb hby d1_29) rfl ?_
      show Steps p.tables e below (s₁.setTop (mkF m 30 #[.val (.long q1), .second, .val (.long (own_rem q1)), .second] [(.long ((32 : Int64) + (own_rem q1))), (.long ((q1 / (480 : Int64)) * (512 : Int64)))])) _
      refine XS.ladd X0.here hx rfl (hb hby d1_30) rfl ?_
      show Steps p.tables e below (s₁.setTop (mkF m 31 #[.val (.long q1), .second, .val (.long (own_rem q1)), .second] [(.long (((q1 / (480 : Int64)) * (512 : Int64)) + ((32 : Int64) + (own_rem q1))))])) _
      exact X0.lreturnOut hx Bd.returns (hb hby d1_31) hr
    · show Qrm1 Z q1  h0 n0 _ s₁.heap _
      rw [e0]
      exact ⟨by rw [own_spent, if_neg hc], N0, rfl⟩
theorem pd_0 : parseMethodDescriptor "(J)J" = some ⟨[.long], some .long⟩ := by decide +kernel
theorem pn_forelog_io_JournalBlocksSpentPinLaw : plainName "forelog/io/JournalBlocksSpentPinLaw" = true := by first | (simp [plainName, overriddenIn]; done) | decide +kernel
theorem ef_rm0 (m : MethodId) (x0 : Int64) (x1 : Int32) : entryFrame m #[(.long x0), (.int x1)] maxLocals = mkF m 0 #[.val (.long x0), .second, .val (.int x1), .unset, .unset, .unset, .unset, .unset, .unset, .unset, .unset] [] := by first | (simp [entryFrame, mkF, argsToLocals, Value.category, maxLocals]; done) | rfl
def Qrm0 (Z : State) (q1 : Int64) (p2 : Int32)  (h0 : Heap) (n0 : Nat) (v : Option Value) (h : Heap) (L : List Loc) : Prop := v = some (.int (1 : Int32)) ∧ Fr n0 L
set_option maxRecDepth 65536 in
set_option maxHeartbeats 40000000 in
theorem rm0 (l : Launch) (Z : State) (a0 : Array Value) (hw : ∀ d ∈ tables_1, d.before a0 Z = true) (ws : List Jvm.Cond) (q1 : Int64) (p2 : Int32)  (h0 : Heap) (n0 : Nat) (Z0 : n0 ≤ h0.size)  :
    MetFree l x (head1 (Jvm.Cond.code x code maxLocals ret :: ws) room_1) (fun a U => a = #[(.long q1), (.int p2)] ∧ Z.Warmed39 U.vm ∧ U.heap = h0) (fun _ _ _ _ _ => True) (fun _ U o U' => ∃ v L, o = .returned v ∧ Qrm0 Z q1 p2  h0 n0 v U'.heap L ∧ FrameEnd U o U' L room_1.cells room_1.slots) := by
  refine MetFree.of_bodySF (plainFor_of_name pn_forelog_io_JournalBlocksSpentPinLaw) hisR ?_
  intro p e s m args below meth c s₁ Bd hml0 hP hK
  obtain ⟨rfl, hZ, hh⟩ := hP
  have hx := Bd.exec
  have hby := Bd.bytes
  have hml : c.maxLocals = 11 := hml0
  have hown : s.vm.findClass "forelog/io/JournalBlocksSpentPinLaw" = some m.cls := findClass_of_methodNamed Bd.named
  have hnm := (name_of_methodNamed Bd.named Bd.method).1
  have X0 : Stand p l e room_1 s m #[(.long q1), (.int p2)] below meth c s₁ [] 0 0 := Stand.of_body Bd
  have e0 : s₁.heap = h0 := by rw [← hh, Bd.state]; rfl
  have N0 := Fr.nil n0
  have pre0 : ∀ t, Steps p.tables e below (s₁.setTop (mkF m 0 #[.val (.long q1), .second, .val (.int p2), .unset, .unset, .unset, .unset, .unset, .unset, .unset, .unset] [])) t → Steps p.tables e below (s₁.setTop (entryFrame m #[(.long q1), (.int p2)] maxLocals)) t := fun t k => castTop (ef_rm0 m q1 p2) k
  by_cases hc : own_r p2 = (0 : Int64)
  · obtain ⟨_, _, ⟨T1, L1, k1, n1⟩, -, X1, ⟨Lc1, hQ1, l1, y1, z1⟩, st1⟩ := Jvm.LawKit.callS X0 hx (y := (⟨"forelog/io/JournalBlocks", "spent", "(J)J"⟩ : MethodName)) hown (mvT hZ (hw _ (List.mem_of_getElem? (i := 5) rfl))) (mvT hZ (hw _ (List.mem_of_getElem? (i := 6) rfl))) (mvT hZ (hw _ (List.mem_of_getElem? (i := 7) rfl))) (mvT hZ (hw _ (List.mem_of_getElem? (i := 8) rfl))) (by decide) (backOf (W := 0) (rm1 l Z a0 hw [] (((own_k q1) * (480 : Int64)) + (own_r p2))  h0 n0 Z0 ) hZ (hw _ (List.mem_of_getElem? (i := 8) rfl)) (hw _ (List.mem_of_getElem? (i := 7) rfl)) (by decide) (by decide)) (g := (mkF m 60 #[.val (.long q1), .second, .val (.int p2), .val (.long (own_k q1)), .second, .val (.long (own_r p2)), .second, .val (.long (((own_k q1) * (480 : Int64)) + (own_r p2))), .second, .val (.long ((own_k q1) * (512 : Int64))), .second] [(.long (((own_k q1) * (480 : Int64)) + (own_r p2)))])) rfl (by rw [hml]; rfl) (argsL := [(.long (((own_k q1) * (480 : Int64)) + (own_r p2)))]) (rest := []) (lenOf pd_0 rfl) rfl (by show 2 * 0 + _ ≤ _; exact Nat.le_of_eq rfl) (hb hby at_60) (fun _ _ => ⟨rfl, e0, (by decide : 0 + 0 ≤ _), (by decide : 0 + 0 ≤ _)⟩)
    dsimp only [Pt.U, Pt.locs, Pt.cells, Pt.slots] at X1 l1 y1 z1 st1 hQ1
    subst l1 y1 z1
    obtain ⟨rfl, N1q, e1⟩ := hQ1
    have N1 := Fr.app N0 N1q
    obtain ⟨fs, hr, hrun, hended, hW, hsame⟩ := X1.leave (v := some (.int (1 : Int32))) (fun h => by rw [Bd.returns] at h; cases h)
    refine ⟨_, _, pre0 _ ?_, hrun, hended, _, _, rfl, ?_, ⟨_, rfl⟩, hW, hsame.mono (by decide) (by decide)⟩
    · show Steps p.tables e below (s₁.setTop (mkF m 0 #[.val (.long q1), .second, .val (.int p2), .unset, .unset, .unset, .unset, .unset, .unset, .unset, .unset] [])) _
      refine XS.lloadN X0.here hx rfl (hb hby at_0) rfl ?_
      show Steps p.tables e below (s₁.setTop (mkF m 1 #[.val (.long q1), .second, .val (.int p2), .unset, .unset, .unset, .unset, .unset, .unset, .unset, .unset] [(.long q1)])) _
      refine X0.ldc2Long hx hown (mvT hZ (hw _ (List.mem_of_getElem? (i := 0) rfl))) (g := (mkF m 1 #[.val (.long q1), .second, .val (.int p2), .unset, .unset, .unset, .unset, .unset, .unset, .unset, .unset] [(.long q1)])) rfl (hb hby at_1) _ ?_
      show Steps p.tables e below (s₁.setTop (mkF m 4 #[.val (.long q1), .second, .val (.int p2), .unset, .unset, .unset, .unset, .unset, .unset, .unset, .unset] [(.long (18014398509481983 : Int64)), (.long q1)])) _
      refine XS.land X0.here hx rfl (hb hby at_4) rfl ?_
      show Steps p.tables e below (s₁.setTop (mkF m 5 #[.val (.long q1), .second, .val (.int p2), .unset, .unset, .unset, .unset, .unset, .unset, .unset, .unset] [(.long (own_k q1))])) _
      refine XS.lstoreN X0.here hx rfl (hb hby at_5) rfl (l' := #[.val (.long q1), .second, .val (.int p2), .val (.long (own_k q1)), .second, .unset, .unset, .unset, .unset, .unset, .unset]) rfl ?_
      show Steps p.tables e below (s₁.setTop (mkF m 6 #[.val (.long q1), .second, .val (.int p2), .val (.long (own_k q1)), .second, .unset, .unset, .unset, .unset, .unset, .unset] [])) _
      refine XS.iloadN X0.here hx rfl (hb hby at_6) rfl ?_
      show Steps p.tables e below (s₁.setTop (mkF m 7 #[.val (.long q1), .second, .val (.int p2), .val (.long (own_k q1)), .second, .unset, .unset, .unset, .unset, .unset, .unset] [(.int p2)])) _
      refine X0.ldcInt hx hown (mvT hZ (hw _ (List.mem_of_getElem? (i := 1) rfl))) (g := (mkF m 7 #[.val (.long q1), .second, .val (.int p2), .val (.long (own_k q1)), .second, .unset, .unset, .unset, .unset, .unset, .unset] [(.int p2)])) rfl (hb hby at_7) _ ?_
      show Steps p.tables e below (s₁.setTop (mkF m 9 #[.val (.long q1), .second, .val (.int p2), .val (.long (own_k q1)), .second, .unset, .unset, .unset, .unset, .unset, .unset] [(.int (2147483647 : Int32)), (.int p2)])) _
      refine XS.iand X0.here hx rfl (hb hby at_9) rfl ?_
      show Steps p.tables e below (s₁.setTop (mkF m 10 #[.val (.long q1), .second, .val (.int p2), .val (.long (own_k q1)), .second, .unset, .unset, .unset, .unset, .unset, .unset] [(.int (p2 &&& (2147483647 : Int32)))])) _
      refine XS.sipush X0.here hx rfl (hb hby at_10) ?_
      show Steps p.tables e below (s₁.setTop (mkF m 13 #[.val (.long q1), .second, .val (.int p2), .val (.long (own_k q1)), .second, .unset, .unset, .unset, .unset, .unset, .unset] [(.int (480 : Int32)), (.int (p2 &&& (2147483647 : Int32)))])) _
      refine iremM X0 hx rfl (hb hby at_13) rfl (by decide) ?_
      show Steps p.tables e below (s₁.setTop (mkF m 14 #[.val (.long q1), .second, .val (.int p2), .val (.long (own_k q1)), .second, .unset, .unset, .unset, .unset, .unset, .unset] [(.int ((p2 &&& (2147483647 : Int32)) % (480 : Int32)))])) _
      refine XS.i2l X0.here hx rfl (hb hby at_14) rfl ?_
      show Steps p.tables e below (s₁.setTop (mkF m 15 #[.val (.long q1), .second, .val (.int p2), .val (.long (own_k q1)), .second, .unset, .unset, .unset, .unset, .unset, .unset] [(.long (own_r p2))])) _
      refine XS.lstore X0.here hx rfl (hb hby at_15) rfl (l' := #[.val (.long q1), .second, .val (.int p2), .val (.long (own_k q1)), .second, .val (.long (own_r p2)), .second, .unset, .unset, .unset, .unset]) rfl ?_
      show Steps p.tables e below (s₁.setTop (mkF m 17 #[.val (.long q1), .second, .val (.int p2), .val (.long (own_k q1)), .second, .val (.long (own_r p2)), .second, .unset, .unset, .unset, .unset] [])) _
      refine XS.lloadN X0.here hx rfl (hb hby at_17) rfl ?_
      show Steps p.tables e below (s₁.setTop (mkF m 18 #[.val (.long q1), .second, .val (.int p2), .val (.long (own_k q1)), .second, .val (.long (own_r p2)), .second, .unset, .unset, .unset, .unset] [(.long (own_k q1))])) _
      refine X0.ldc2Long hx hown (mvT hZ (hw _ (List.mem_of_getElem? (i := 2) rfl))) (g := (mkF m 18 #[.val (.long q1), .second, .val (.int p2), .val (.long (own_k q1)), .second, .val (.long (own_r p2)), .second, .unset, .unset, .unset, .unset] [(.long (own_k q1))])) rfl (hb hby at_18) _ ?_
      show Steps p.tables e below (s₁.setTop (mkF m 21 #[.val (.long q1), .second, .val (.int p2), .val (.long (own_k q1)), .second, .val (.long (own_r p2)), .second, .unset, .unset, .unset, .unset] [(.long (480 : Int64)), (.long (own_k q1))])) _
      refine XS.lmul X0.here hx rfl (hb hby at_21) rfl ?_
      show Steps p.tables e below (s₁.setTop (mkF m 22 #[.val (.long q1), .second, .val (.int p2), .val (.long (own_k q1)), .second, .val (.long (own_r p2)), .second, .unset, .unset, .unset, .unset] [(.long ((own_k q1) * (480 : Int64)))])) _
      refine XS.lload X0.here hx rfl (hb hby at_22) rfl ?_
      show Steps p.tables e below (s₁.setTop (mkF m 24 #[.val (.long q1), .second, .val (.int p2), .val (.long (own_k q1)), .second, .val (.long (own_r p2)), .second, .unset, .unset, .unset, .unset] [(.long (own_r p2)), (.long ((own_k q1) * (480 : Int64)))])) _
      refine XS.ladd X0.here hx rfl (hb hby at_24) rfl ?_
      show Steps p.tables e below (s₁.setTop (mkF m 25 #[.val (.long q1), .second, .val (.int p2), .val (.long (own_k q1)), .second, .val (.long (own_r p2)), .second, .unset, .unset, .unset, .unset] [(.long (((own_k q1) * (480 : Int64)) + (own_r p2)))])) _
      refine XS.lstore X0.here hx rfl (hb hby at_25) rfl (l' := #[.val (.long q1), .second, .val (.int p2), .val (.long (own_k q1)), .second, .val (.long (own_r p2)), .second, .val (.long (((own_k q1) * (480 : Int64)) + (own_r p2))), .second, .unset, .unset]) rfl ?_
      show Steps p.tables e below (s₁.setTop (mkF m 27 #[.val (.long q1), .second, .val (.int p2), .val (.long (own_k q1)), .second, .val (.long (own_r p2)), .second, .val (.long (((own_k q1) * (480 : Int64)) + (own_r p2))), .second, .unset, .unset] [])) _
      refine XS.lload X0.here hx rfl (hb hby at_27) rfl ?_
      show Steps p.tables e below (s₁.setTop (mkF m 29 #[.val (.long q1), .second, .val (.int p2), .val (.long (own_k q1)), .second, .val (.long (own_r p2)), .second, .val (.long (((own_k q1) * (480 : Int64)) + (own_r p2))), .second, .unset, .unset] [(.long (own_r p2))])) _
      refine XS.lconst X0.here hx rfl (hb hby at_29) ?_
      show Steps p.tables e below (s₁.setTop (mkF m 30 #[.val (.long q1), .second, .val (.int p2), .val (.long (own_k q1)), .second, .val (.long (own_r p2)), .second, .val (.long (((own_k q1) * (480 : Int64)) + (own_r p2))), .second, .unset, .unset] [(.long (0 : Int64)), (.long (own_r p2))])) _
      refine XS.lcmp X0.here hx rfl (hb hby at_30) rfl ?_
      show Steps p.tables e below (s₁.setTop (mkF m 31 #[.val (.long q1), .second, .val (.int p2), .val (.long (own_k q1)), .second, .val (.long (own_r p2)), .second, .val (.long (((own_k q1) * (480 : Int64)) + (own_r p2))), .second, .unset, .unset] [(.int (lcmpW (own_r p2) (0 : Int64)))])) _
      refine XS.ifNo X0.here hx rfl (hb hby at_31) rfl ((if0 _ _).trans (teq ((lw_eq _ _).mpr hc : (lcmpW (own_r p2) (0 : Int64)) = (0 : Int32))).2) ?_
      show Steps p.tables e below (s₁.setTop (mkF m 34 #[.val (.long q1), .second, .val (.int p2), .val (.long (own_k q1)), .second, .val (.long (own_r p2)), .second, .val (.long (((own_k q1) * (480 : Int64)) + (own_r p2))), .second, .unset, .unset] [])) _
      refine XS.lloadN X0.here hx rfl (hb hby at_34) rfl ?_
      show Steps p.tables e below (s₁.setTop (mkF m 35 #[.val (.long q1), .second, .val (.int p2), .val (.long (own_k q1)), .second, .val (.long (own_r p2)), .second, .val (.long (((own_k q1) * (480 : Int64)) + (own_r p2))), .second, .unset, .unset] [(.long (own_k q1))])) _
      refine X0.ldc2Long hx hown (mvT hZ (hw _ (List.mem_of_getElem? (i := 3) rfl))) (g := (mkF m 35 #[.val (.long q1), .second, .val (.int p2), .val (.long (own_k q1)), .second, .val (.long (own_r p2)), .second, .val (.long (((own_k q1) * (480 : Int64)) + (own_r p2))), .second, .unset, .unset] [(.long (own_k q1))])) rfl (hb hby at_35) _ ?_
      show Steps p.tables e below (s₁.setTop (mkF m 38 #[.val (.long q1), .second, .val (.int p2), .val (.long (own_k q1)), .second, .val (.long (own_r p2)), .second, .val (.long (((own_k q1) * (480 : Int64)) + (own_r p2))), .second, .unset, .unset] [(.long (512 : Int64)), (.long (own_k q1))])) _
      refine XS.lmul X0.here hx rfl (hb hby at_38) rfl ?_
      show Steps p.tables e below (s₁.setTop (mkF m 39 #[.val (.long q1), .second, .val (.int p2), .val (.long (own_k q1)), .second, .val (.long (own_r p2)), .second, .val (.long (((own_k q1) * (480 : Int64)) + (own_r p2))), .second, .unset, .unset] [(.long ((own_k q1) * (512 : Int64)))])) _
      refine XS.lstore X0.here hx rfl (hb hby at_39) rfl (l' := #[.val (.long q1), .second, .val (.int p2), .val (.long (own_k q1)), .second, .val (.long (own_r p2)), .second, .val (.long (((own_k q1) * (480 : Int64)) + (own_r p2))), .second, .val (.long ((own_k q1) * (512 : Int64))), .second]) rfl ?_
      show Steps p.tables e below (s₁.setTop (mkF m 41 #[.val (.long q1), .second, .val (.int p2), .val (.long (own_k q1)), .second, .val (.long (own_r p2)), .second, .val (.long (((own_k q1) * (480 : Int64)) + (own_r p2))), .second, .val (.long ((own_k q1) * (512 : Int64))), .second] [])) _
      refine XS.goto X0.here hx rfl (pc0 := 41) (pc' := 58) rfl (hb hby at_41) (by decide) (by decide) ?_
      show Steps p.tables e below (s₁.setTop (mkF m 58 #[.val (.long q1), .second, .val (.int p2), .val (.long (own_k q1)), .second, .val (.long (own_r p2)), .second, .val (.long (((own_k q1) * (480 : Int64)) + (own_r p2))), .second, .val (.long ((own_k q1) * (512 : Int64))), .second] [])) _
      refine XS.lload X0.here hx rfl (hb hby at_58) rfl ?_
      show Steps p.tables e below (s₁.setTop (mkF m 60 #[.val (.long q1), .second, .val (.int p2), .val (.long (own_k q1)), .second, .val (.long (own_r p2)), .second, .val (.long (((own_k q1) * (480 : Int64)) + (own_r p2))), .second, .val (.long ((own_k q1) * (512 : Int64))), .second] [(.long (((own_k q1) * (480 : Int64)) + (own_r p2)))])) _
      refine st1 _ ?_
      show Steps p.tables e below (T1.setTop (mkF m 63 #[.val (.long q1), .second, .val (.int p2), .val (.long (own_k q1)), .second, .val (.long (own_r p2)), .second, .val (.long (((own_k q1) * (480 : Int64)) + (own_r p2))), .second, .val (.long ((own_k q1) * (512 : Int64))), .second] [(.long (own_spent ((own_k q1) * (480 : Int64) + (own_r p2))))])) _
      refine XS.lload X1.here hx rfl (hb hby at_63) rfl ?_
      show Steps p.tables e below (T1.setTop (mkF m 65 #[.val (.long q1), .second, .val (.int p2), .val (.long (own_k q1)), .second, .val (.long (own_r p2)), .second, .val (.long (((own_k q1) * (480 : Int64)) + (own_r p2))), .second, .val (.long ((own_k q1) * (512 : Int64))), .second] [(.long ((own_k q1) * (512 : Int64))), (.long (own_spent ((own_k q1) * (480 : Int64) + (own_r p2))))])) _
      refine XS.lcmp X1.here hx rfl (hb hby at_65) rfl ?_
      show Steps p.tables e below (T1.setTop (mkF m 66 #[.val (.long q1), .second, .val (.int p2), .val (.long (own_k q1)), .second, .val (.long (own_r p2)), .second, .val (.long (((own_k q1) * (480 : Int64)) + (own_r p2))), .second, .val (.long ((own_k q1) * (512 : Int64))), .second] [(.int (lcmpW (own_spent ((own_k q1) * (480 : Int64) + (own_r p2))) ((own_k q1) * (512 : Int64))))])) _
      refine XS.ifNo X1.here hx rfl (hb hby at_66) rfl ((if0 _ _).trans (teq ((lw_eq _ _).mpr (own_eq0 q1 p2 hc) : (lcmpW (own_spent ((own_k q1) * (480 : Int64) + (own_r p2))) ((own_k q1) * (512 : Int64))) = (0 : Int32))).2) ?_
      show Steps p.tables e below (T1.setTop (mkF m 69 #[.val (.long q1), .second, .val (.int p2), .val (.long (own_k q1)), .second, .val (.long (own_r p2)), .second, .val (.long (((own_k q1) * (480 : Int64)) + (own_r p2))), .second, .val (.long ((own_k q1) * (512 : Int64))), .second] [])) _
      refine XS.iconst X1.here hx rfl (hb hby at_69) ?_
      show Steps p.tables e below (T1.setTop (mkF m 70 #[.val (.long q1), .second, .val (.int p2), .val (.long (own_k q1)), .second, .val (.long (own_r p2)), .second, .val (.long (((own_k q1) * (480 : Int64)) + (own_r p2))), .second, .val (.long ((own_k q1) * (512 : Int64))), .second] [(.int (1 : Int32))])) _
      refine XS.goto X1.here hx rfl (pc0 := 70) (pc' := 74) rfl (hb hby at_70) (by decide) (by decide) ?_
      show Steps p.tables e below (T1.setTop (mkF m 74 #[.val (.long q1), .second, .val (.int p2), .val (.long (own_k q1)), .second, .val (.long (own_r p2)), .second, .val (.long (((own_k q1) * (480 : Int64)) + (own_r p2))), .second, .val (.long ((own_k q1) * (512 : Int64))), .second] [(.int (1 : Int32))])) _
      exact retN X1 hx (t := .boolean) Bd.returns (by simp) (hb hby at_74) hr
    · show Qrm0 Z q1 p2  h0 n0 _ T1.heap _
      rw [e1]
      exact ⟨rfl, N1⟩
  · obtain ⟨_, _, ⟨T1, L1, k1, n1⟩, -, X1, ⟨Lc1, hQ1, l1, y1, z1⟩, st1⟩ := Jvm.LawKit.callS X0 hx (y := (⟨"forelog/io/JournalBlocks", "spent", "(J)J"⟩ : MethodName)) hown (mvT hZ (hw _ (List.mem_of_getElem? (i := 5) rfl))) (mvT hZ (hw _ (List.mem_of_getElem? (i := 6) rfl))) (mvT hZ (hw _ (List.mem_of_getElem? (i := 7) rfl))) (mvT hZ (hw _ (List.mem_of_getElem? (i := 8) rfl))) (by decide) (backOf (W := 0) (rm1 l Z a0 hw [] (((own_k q1) * (480 : Int64)) + (own_r p2))  h0 n0 Z0 ) hZ (hw _ (List.mem_of_getElem? (i := 8) rfl)) (hw _ (List.mem_of_getElem? (i := 7) rfl)) (by decide) (by decide)) (g := (mkF m 60 #[.val (.long q1), .second, .val (.int p2), .val (.long (own_k q1)), .second, .val (.long (own_r p2)), .second, .val (.long (((own_k q1) * (480 : Int64)) + (own_r p2))), .second, .val (.long ((((own_k q1) * (512 : Int64)) + (32 : Int64)) + (own_r p2))), .second] [(.long (((own_k q1) * (480 : Int64)) + (own_r p2)))])) rfl (by rw [hml]; rfl) (argsL := [(.long (((own_k q1) * (480 : Int64)) + (own_r p2)))]) (rest := []) (lenOf pd_0 rfl) rfl (by show 2 * 0 + _ ≤ _; exact Nat.le_of_eq rfl) (hb hby at_60) (fun _ _ => ⟨rfl, e0, (by decide : 0 + 0 ≤ _), (by decide : 0 + 0 ≤ _)⟩)
    dsimp only [Pt.U, Pt.locs, Pt.cells, Pt.slots] at X1 l1 y1 z1 st1 hQ1
    subst l1 y1 z1
    obtain ⟨rfl, N1q, e1⟩ := hQ1
    have N1 := Fr.app N0 N1q
    obtain ⟨fs, hr, hrun, hended, hW, hsame⟩ := X1.leave (v := some (.int (1 : Int32))) (fun h => by rw [Bd.returns] at h; cases h)
    refine ⟨_, _, pre0 _ ?_, hrun, hended, _, _, rfl, ?_, ⟨_, rfl⟩, hW, hsame.mono (by decide) (by decide)⟩
    · show Steps p.tables e below (s₁.setTop (mkF m 0 #[.val (.long q1), .second, .val (.int p2), .unset, .unset, .unset, .unset, .unset, .unset, .unset, .unset] [])) _
      refine XS.lloadN X0.here hx rfl (hb hby at_0) rfl ?_
      show Steps p.tables e below (s₁.setTop (mkF m 1 #[.val (.long q1), .second, .val (.int p2), .unset, .unset, .unset, .unset, .unset, .unset, .unset, .unset] [(.long q1)])) _
      refine X0.ldc2Long hx hown (mvT hZ (hw _ (List.mem_of_getElem? (i := 0) rfl))) (g := (mkF m 1 #[.val (.long q1), .second, .val (.int p2), .unset, .unset, .unset, .unset, .unset, .unset, .unset, .unset] [(.long q1)])) rfl (hb hby at_1) _ ?_
      show Steps p.tables e below (s₁.setTop (mkF m 4 #[.val (.long q1), .second, .val (.int p2), .unset, .unset, .unset, .unset, .unset, .unset, .unset, .unset] [(.long (18014398509481983 : Int64)), (.long q1)])) _
      refine XS.land X0.here hx rfl (hb hby at_4) rfl ?_
      show Steps p.tables e below (s₁.setTop (mkF m 5 #[.val (.long q1), .second, .val (.int p2), .unset, .unset, .unset, .unset, .unset, .unset, .unset, .unset] [(.long (own_k q1))])) _
      refine XS.lstoreN X0.here hx rfl (hb hby at_5) rfl (l' := #[.val (.long q1), .second, .val (.int p2), .val (.long (own_k q1)), .second, .unset, .unset, .unset, .unset, .unset, .unset]) rfl ?_
      show Steps p.tables e below (s₁.setTop (mkF m 6 #[.val (.long q1), .second, .val (.int p2), .val (.long (own_k q1)), .second, .unset, .unset, .unset, .unset, .unset, .unset] [])) _
      refine XS.iloadN X0.here hx rfl (hb hby at_6) rfl ?_
      show Steps p.tables e below (s₁.setTop (mkF m 7 #[.val (.long q1), .second, .val (.int p2), .val (.long (own_k q1)), .second, .unset, .unset, .unset, .unset, .unset, .unset] [(.int p2)])) _
      refine X0.ldcInt hx hown (mvT hZ (hw _ (List.mem_of_getElem? (i := 1) rfl))) (g := (mkF m 7 #[.val (.long q1), .second, .val (.int p2), .val (.long (own_k q1)), .second, .unset, .unset, .unset, .unset, .unset, .unset] [(.int p2)])) rfl (hb hby at_7) _ ?_
      show Steps p.tables e below (s₁.setTop (mkF m 9 #[.val (.long q1), .second, .val (.int p2), .val (.long (own_k q1)), .second, .unset, .unset, .unset, .unset, .unset, .unset] [(.int (2147483647 : Int32)), (.int p2)])) _
      refine XS.iand X0.here hx rfl (hb hby at_9) rfl ?_
      show Steps p.tables e below (s₁.setTop (mkF m 10 #[.val (.long q1), .second, .val (.int p2), .val (.long (own_k q1)), .second, .unset, .unset, .unset, .unset, .unset, .unset] [(.int (p2 &&& (2147483647 : Int32)))])) _
      refine XS.sipush X0.here hx rfl (hb hby at_10) ?_
      show Steps p.tables e below (s₁.setTop (mkF m 13 #[.val (.long q1), .second, .val (.int p2), .val (.long (own_k q1)), .second, .unset, .unset, .unset, .unset, .unset, .unset] [(.int (480 : Int32)), (.int (p2 &&& (2147483647 : Int32)))])) _
      refine iremM X0 hx rfl (hb hby at_13) rfl (by decide) ?_
      show Steps p.tables e below (s₁.setTop (mkF m 14 #[.val (.long q1), .second, .val (.int p2), .val (.long (own_k q1)), .second, .unset, .unset, .unset, .unset, .unset, .unset] [(.int ((p2 &&& (2147483647 : Int32)) % (480 : Int32)))])) _
      refine XS.i2l X0.here hx rfl (hb hby at_14) rfl ?_
      show Steps p.tables e below (s₁.setTop (mkF m 15 #[.val (.long q1), .second, .val (.int p2), .val (.long (own_k q1)), .second, .unset, .unset, .unset, .unset, .unset, .unset] [(.long (own_r p2))])) _
      refine XS.lstore X0.here hx rfl (hb hby at_15) rfl (l' := #[.val (.long q1), .second, .val (.int p2), .val (.long (own_k q1)), .second, .val (.long (own_r p2)), .second, .unset, .unset, .unset, .unset]) rfl ?_
      show Steps p.tables e below (s₁.setTop (mkF m 17 #[.val (.long q1), .second, .val (.int p2), .val (.long (own_k q1)), .second, .val (.long (own_r p2)), .second, .unset, .unset, .unset, .unset] [])) _
      refine XS.lloadN X0.here hx rfl (hb hby at_17) rfl ?_
      show Steps p.tables e below (s₁.setTop (mkF m 18 #[.val (.long q1), .second, .val (.int p2), .val (.long (own_k q1)), .second, .val (.long (own_r p2)), .second, .unset, .unset, .unset, .unset] [(.long (own_k q1))])) _
      refine X0.ldc2Long hx hown (mvT hZ (hw _ (List.mem_of_getElem? (i := 2) rfl))) (g := (mkF m 18 #[.val (.long q1), .second, .val (.int p2), .val (.long (own_k q1)), .second, .val (.long (own_r p2)), .second, .unset, .unset, .unset, .unset] [(.long (own_k q1))])) rfl (hb hby at_18) _ ?_
      show Steps p.tables e below (s₁.setTop (mkF m 21 #[.val (.long q1), .second, .val (.int p2), .val (.long (own_k q1)), .second, .val (.long (own_r p2)), .second, .unset, .unset, .unset, .unset] [(.long (480 : Int64)), (.long (own_k q1))])) _
      refine XS.lmul X0.here hx rfl (hb hby at_21) rfl ?_
      show Steps p.tables e below (s₁.setTop (mkF m 22 #[.val (.long q1), .second, .val (.int p2), .val (.long (own_k q1)), .second, .val (.long (own_r p2)), .second, .unset, .unset, .unset, .unset] [(.long ((own_k q1) * (480 : Int64)))])) _
      refine XS.lload X0.here hx rfl (hb hby at_22) rfl ?_
      show Steps p.tables e below (s₁.setTop (mkF m 24 #[.val (.long q1), .second, .val (.int p2), .val (.long (own_k q1)), .second, .val (.long (own_r p2)), .second, .unset, .unset, .unset, .unset] [(.long (own_r p2)), (.long ((own_k q1) * (480 : Int64)))])) _
      refine XS.ladd X0.here hx rfl (hb hby at_24) rfl ?_
      show Steps p.tables e below (s₁.setTop (mkF m 25 #[.val (.long q1), .second, .val (.int p2), .val (.long (own_k q1)), .second, .val (.long (own_r p2)), .second, .unset, .unset, .unset, .unset] [(.long (((own_k q1) * (480 : Int64)) + (own_r p2)))])) _
      refine XS.lstore X0.here hx rfl (hb hby at_25) rfl (l' := #[.val (.long q1), .second, .val (.int p2), .val (.long (own_k q1)), .second, .val (.long (own_r p2)), .second, .val (.long (((own_k q1) * (480 : Int64)) + (own_r p2))), .second, .unset, .unset]) rfl ?_
      show Steps p.tables e below (s₁.setTop (mkF m 27 #[.val (.long q1), .second, .val (.int p2), .val (.long (own_k q1)), .second, .val (.long (own_r p2)), .second, .val (.long (((own_k q1) * (480 : Int64)) + (own_r p2))), .second, .unset, .unset] [])) _
      refine XS.lload X0.here hx rfl (hb hby at_27) rfl ?_
      show Steps p.tables e below (s₁.setTop (mkF m 29 #[.val (.long q1), .second, .val (.int p2), .val (.long (own_k q1)), .second, .val (.long (own_r p2)), .second, .val (.long (((own_k q1) * (480 : Int64)) + (own_r p2))), .second, .unset, .unset] [(.long (own_r p2))])) _
      refine XS.lconst X0.here hx rfl (hb hby at_29) ?_
      show Steps p.tables e below (s₁.setTop (mkF m 30 #[.val (.long q1), .second, .val (.int p2), .val (.long (own_k q1)), .second, .val (.long (own_r p2)), .second, .val (.long (((own_k q1) * (480 : Int64)) + (own_r p2))), .second, .unset, .unset] [(.long (0 : Int64)), (.long (own_r p2))])) _
      refine XS.lcmp X0.here hx rfl (hb hby at_30) rfl ?_
      show Steps p.tables e below (s₁.setTop (mkF m 31 #[.val (.long q1), .second, .val (.int p2), .val (.long (own_k q1)), .second, .val (.long (own_r p2)), .second, .val (.long (((own_k q1) * (480 : Int64)) + (own_r p2))), .second, .unset, .unset] [(.int (lcmpW (own_r p2) (0 : Int64)))])) _
      refine XS.ifYes X0.here hx rfl (pc0 := 31) (pc' := 44) rfl (hb hby at_31) rfl ((if0 _ _).trans (feq (mt (lw_eq _ _).mp hc : ¬ ((lcmpW (own_r p2) (0 : Int64)) = (0 : Int32)))).2) (by decide) (by decide) ?_
      show Steps p.tables e below (s₁.setTop (mkF m 44 #[.val (.long q1), .second, .val (.int p2), .val (.long (own_k q1)), .second, .val (.long (own_r p2)), .second, .val (.long (((own_k q1) * (480 : Int64)) + (own_r p2))), .second, .unset, .unset] [])) _
      refine XS.lloadN X0.here hx rfl (hb hby at_44) rfl ?_
      show Steps p.tables e below (s₁.setTop (mkF m 45 #[.val (.long q1), .second, .val (.int p2), .val (.long (own_k q1)), .second, .val (.long (own_r p2)), .second, .val (.long (((own_k q1) * (480 : Int64)) + (own_r p2))), .second, .unset, .unset] [(.long (own_k q1))])) _
      refine X0.ldc2Long hx hown (mvT hZ (hw _ (List.mem_of_getElem? (i := 3) rfl))) (g := (mkF m 45 #[.val (.long q1), .second, .val (.int p2), .val (.long (own_k q1)), .second, .val (.long (own_r p2)), .second, .val (.long (((own_k q1) * (480 : Int64)) + (own_r p2))), .second, .unset, .unset] [(.long (own_k q1))])) rfl (hb hby at_45) _ ?_
      show Steps p.tables e below (s₁.setTop (mkF m 48 #[.val (.long q1), .second, .val (.int p2), .val (.long (own_k q1)), .second, .val (.long (own_r p2)), .second, .val (.long (((own_k q1) * (480 : Int64)) + (own_r p2))), .second, .unset, .unset] [(.long (512 : Int64)), (.long (own_k q1))])) _
      refine XS.lmul X0.here hx rfl (hb hby at_48) rfl ?_
      show Steps p.tables e below (s₁.setTop (mkF m 49 #[.val (.long q1), .second, .val (.int p2), .val (.long (own_k q1)), .second, .val (.long (own_r p2)), .second, .val (.long (((own_k q1) * (480 : Int64)) + (own_r p2))), .second, .unset, .unset] [(.long ((own_k q1) * (512 : Int64)))])) _
      refine X0.ldc2Long hx hown (mvT hZ (hw _ (List.mem_of_getElem? (i := 4) rfl))) (g := (mkF m 49 #[.val (.long q1), .second, .val (.int p2), .val (.long (own_k q1)), .second, .val (.long (own_r p2)), .second, .val (.long (((own_k q1) * (480 : Int64)) + (own_r p2))), .second, .unset, .unset] [(.long ((own_k q1) * (512 : Int64)))])) rfl (hb hby at_49) _ ?_
      show Steps p.tables e below (s₁.setTop (mkF m 52 #[.val (.long q1), .second, .val (.int p2), .val (.long (own_k q1)), .second, .val (.long (own_r p2)), .second, .val (.long (((own_k q1) * (480 : Int64)) + (own_r p2))), .second, .unset, .unset] [(.long (32 : Int64)), (.long ((own_k q1) * (512 : Int64)))])) _
      refine XS.ladd X0.here hx rfl (hb hby at_52) rfl ?_
      show Steps p.tables e below (s₁.setTop (mkF m 53 #[.val (.long q1), .second, .val (.int p2), .val (.long (own_k q1)), .second, .val (.long (own_r p2)), .second, .val (.long (((own_k q1) * (480 : Int64)) + (own_r p2))), .second, .unset, .unset] [(.long (((own_k q1) * (512 : Int64)) + (32 : Int64)))])) _
      refine XS.lload X0.here hx rfl (hb hby at_53) rfl ?_
      show Steps p.tables e below (s₁.setTop (mkF m 55 #[.val (.long q1), .second, .val (.int p2), .val (.long (own_k q1)), .second, .val (.long (own_r p2)), .second, .val (.long (((own_k q1) * (480 : Int64)) + (own_r p2))), .second, .unset, .unset] [(.long (own_r p2)), (.long (((own_k q1) * (512 : Int64)) + (32 : Int64)))])) _
      refine XS.ladd X0.here hx rfl (hb hby at_55) rfl ?_
      show Steps p.tables e below (s₁.setTop (mkF m 56 #[.val (.long q1), .second, .val (.int p2), .val (.long (own_k q1)), .second, .val (.long (own_r p2)), .second, .val (.long (((own_k q1) * (480 : Int64)) + (own_r p2))), .second, .unset, .unset] [(.long ((((own_k q1) * (512 : Int64)) + (32 : Int64)) + (own_r p2)))])) _
      refine XS.lstore X0.here hx rfl (hb hby at_56) rfl (l' := #[.val (.long q1), .second, .val (.int p2), .val (.long (own_k q1)), .second, .val (.long (own_r p2)), .second, .val (.long (((own_k q1) * (480 : Int64)) + (own_r p2))), .second, .val (.long ((((own_k q1) * (512 : Int64)) + (32 : Int64)) + (own_r p2))), .second]) rfl ?_
      show Steps p.tables e below (s₁.setTop (mkF m 58 #[.val (.long q1), .second, .val (.int p2), .val (.long (own_k q1)), .second, .val (.long (own_r p2)), .second, .val (.long (((own_k q1) * (480 : Int64)) + (own_r p2))), .second, .val (.long ((((own_k q1) * (512 : Int64)) + (32 : Int64)) + (own_r p2))), .second] [])) _
      refine XS.lload X0.here hx rfl (hb hby at_58) rfl ?_
      show Steps p.tables e below (s₁.setTop (mkF m 60 #[.val (.long q1), .second, .val (.int p2), .val (.long (own_k q1)), .second, .val (.long (own_r p2)), .second, .val (.long (((own_k q1) * (480 : Int64)) + (own_r p2))), .second, .val (.long ((((own_k q1) * (512 : Int64)) + (32 : Int64)) + (own_r p2))), .second] [(.long (((own_k q1) * (480 : Int64)) + (own_r p2)))])) _
      refine st1 _ ?_
      show Steps p.tables e below (T1.setTop (mkF m 63 #[.val (.long q1), .second, .val (.int p2), .val (.long (own_k q1)), .second, .val (.long (own_r p2)), .second, .val (.long (((own_k q1) * (480 : Int64)) + (own_r p2))), .second, .val (.long ((((own_k q1) * (512 : Int64)) + (32 : Int64)) + (own_r p2))), .second] [(.long (own_spent ((own_k q1) * (480 : Int64) + (own_r p2))))])) _
      refine XS.lload X1.here hx rfl (hb hby at_63) rfl ?_
      show Steps p.tables e below (T1.setTop (mkF m 65 #[.val (.long q1), .second, .val (.int p2), .val (.long (own_k q1)), .second, .val (.long (own_r p2)), .second, .val (.long (((own_k q1) * (480 : Int64)) + (own_r p2))), .second, .val (.long ((((own_k q1) * (512 : Int64)) + (32 : Int64)) + (own_r p2))), .second] [(.long ((((own_k q1) * (512 : Int64)) + (32 : Int64)) + (own_r p2))), (.long (own_spent ((own_k q1) * (480 : Int64) + (own_r p2))))])) _
      refine XS.lcmp X1.here hx rfl (hb hby at_65) rfl ?_
      show Steps p.tables e below (T1.setTop (mkF m 66 #[.val (.long q1), .second, .val (.int p2), .val (.long (own_k q1)), .second, .val (.long (own_r p2)), .second, .val (.long (((own_k q1) * (480 : Int64)) + (own_r p2))), .second, .val (.long ((((own_k q1) * (512 : Int64)) + (32 : Int64)) + (own_r p2))), .second] [(.int (lcmpW (own_spent ((own_k q1) * (480 : Int64) + (own_r p2))) ((((own_k q1) * (512 : Int64)) + (32 : Int64)) + (own_r p2))))])) _
      refine XS.ifNo X1.here hx rfl (hb hby at_66) rfl ((if0 _ _).trans (teq ((lw_eq _ _).mpr (own_eq1 q1 p2 hc) : (lcmpW (own_spent ((own_k q1) * (480 : Int64) + (own_r p2))) ((((own_k q1) * (512 : Int64)) + (32 : Int64)) + (own_r p2))) = (0 : Int32))).2) ?_
      show Steps p.tables e below (T1.setTop (mkF m 69 #[.val (.long q1), .second, .val (.int p2), .val (.long (own_k q1)), .second, .val (.long (own_r p2)), .second, .val (.long (((own_k q1) * (480 : Int64)) + (own_r p2))), .second, .val (.long ((((own_k q1) * (512 : Int64)) + (32 : Int64)) + (own_r p2))), .second] [])) _
      refine XS.iconst X1.here hx rfl (hb hby at_69) ?_
      show Steps p.tables e below (T1.setTop (mkF m 70 #[.val (.long q1), .second, .val (.int p2), .val (.long (own_k q1)), .second, .val (.long (own_r p2)), .second, .val (.long (((own_k q1) * (480 : Int64)) + (own_r p2))), .second, .val (.long ((((own_k q1) * (512 : Int64)) + (32 : Int64)) + (own_r p2))), .second] [(.int (1 : Int32))])) _
      refine XS.goto X1.here hx rfl (pc0 := 70) (pc' := 74) rfl (hb hby at_70) (by decide) (by decide) ?_
      show Steps p.tables e below (T1.setTop (mkF m 74 #[.val (.long q1), .second, .val (.int p2), .val (.long (own_k q1)), .second, .val (.long (own_r p2)), .second, .val (.long (((own_k q1) * (480 : Int64)) + (own_r p2))), .second, .val (.long ((((own_k q1) * (512 : Int64)) + (32 : Int64)) + (own_r p2))), .second] [(.int (1 : Int32))])) _
      exact retN X1 hx (t := .boolean) Bd.returns (by simp) (hb hby at_74) hr
    · show Qrm0 Z q1 p2  h0 n0 _ T1.heap _
      rw [e1]
      exact ⟨rfl, N1⟩
set_option maxRecDepth 65536 in
set_option maxHeartbeats 40000000 in
theorem comes_1 {Post : Tables → Env → Array Value → State → Outcome → State → Prop} (hpost : ∀ tb e args s v u, (limb_1_1.after args s (.returned v) u = true ∧ limb_1_2.after args s (.returned v) u = true ∧ True) → FrameEnd s (.returned v) u (Jvm.fieldLocs frame_1_writes args s ++ Jvm.arrayLocs frame_1_arrays args s ++ Jvm.staticLocs frame_1_statics s) 0 0 → Post tb e args s (.returned v) u) :
    ArmFor flags0 classFile x code maxLocals ret World_1 tables_1 room_1 Calls_1 rest_1 Pre_1 Post := by
  intro l hfl _ _ p e ha hc hk s m args below hf hA hF happ hP
  obtain ⟨hcalls, hrest, hpre⟩ := hP
  obtain ⟨-, -, -, hnamed, -, -, -, hat⟩ := (Spec.applies_iff hf).mp happ
  obtain ⟨hg, hn⟩ := and_e (Cond.before_iff.mp (show (Jvm.Cond.and given_1 narrow_1).before args s = true from hpre))
  obtain ⟨gv1, gv2⟩ := and_e hg
  obtain ⟨gv3, gv4⟩ := and_e gv2
  obtain ⟨w0, w1, rfl⟩ : ∃ w0 w1 : Value, args = #[w0, w1] := by
    have hs : args.size = 2 := by simpa [Cond.value, given_1] using gv1
    obtain ⟨L⟩ := args
    match L, hs with
    | [w0, w1], _ => exact ⟨w0, w1, rfl⟩
  have hw := fun d (hd : d ∈ tables_1) => atoms_spec (ws := Jvm.Cond.code x code maxLocals ret :: tables_1) hat d (List.mem_cons_of_mem _ hd)
  have hfit : Fit s := fun {y c} hc i hi => by
    obtain ⟨ha, rfl⟩ := Array.getElem?_eq_some_iff.mp hc
    have q := List.all_eq_true.mp ((Array.all_eq_true_iff_forall_mem.mp hF) _ (Array.getElem_mem ha)) i (List.mem_range.mpr hi)
    simpa [Array.getElem?_eq_getElem hi] using q
  obtain ⟨i0, ei0⟩ := isL_v gv3
  obtain rfl : w0 = (.long i0) := Option.some.inj ei0
  obtain ⟨i1, ei1⟩ := is_v gv4
  obtain rfl : w1 = (.int i1) := Option.some.inj ei1
  obtain ⟨n, o, h1, h2, h3, _, L, rfl, ⟨rfl, N⟩, hq⟩ := rm0 l s _ hw tables_1 i0 i1  s.heap s.heap.size (Nat.le_refl _)  p e ha hc hk s m _ below hf ((Spec.applies_iff_loose hf).mp happ).1 ⟨rfl, State.Warmed39.refl s, rfl⟩ trivial
  refine ⟨n, _, h1, h2, h3, hpost _ _ _ _ _ _ ⟨Cond.after_iff.mpr rfl, Cond.after_iff.mpr (eq_i res_at (Term.int_eval (1)) rfl), trivial⟩ ⟨hq.1, hq.2.1, (hq.2.2.sift fun y hy => Or.inr (N y hy)).mono (by decide) (by decide)⟩⟩
theorem main_1_1 : Claimed_1_1 := comes_1 fun _ _ _ _ _ _ h hF => ⟨h.1, hF⟩
theorem main_1_2 : Claimed_1_2 := comes_1 fun _ _ _ _ _ _ h hF => ⟨h.2.1, hF⟩
end Jvm.Pilot.@@N@@
namespace Jvm.Pilot.@@N@@
open Jvm Jvm.ClassFile Sem Op Lib Jvm.Free Jvm.Stand Jvm.Pilot.@@N@@.Jvm.D
/-! MADE BY PROGRAM (witnessworld.py) out of the Statement's table words and the real class files: 9 classes; the members and pool entries that the words name. The judged class is class 1, her method 1. -/
namespace start1
open Jvm.ClassFile
def u (s : String) : CpInfo := .utf8 (stringToUtf16 s)
/-- a pool by its gaps: so many unusable entries, then the entry; so many at the end -/
def gap : Nat → List CpInfo → List CpInfo
  | 0, r => r
  | n + 1, r => .unusable :: gap n r
def poolList (es : List (Nat × CpInfo)) (last : Nat) : List CpInfo := es.foldr (fun e r => gap e.1 (e.2 :: r)) (gap last [])
def pool (es : List (Nat × CpInfo)) (last : Nat) : Array CpInfo := ⟨poolList es last⟩
def fileOf (pool : Array CpInfo) (this : Nat) (attrs : Array Attribute := #[]) (ms : Array MethodInfo := #[]) (fl : Nat := 33) (sup : Nat := 0) (ifs : Array Nat := #[]) (fds : Array FieldInfo := #[]) : ClassFile where
  minorVersion := 0
  majorVersion := 65
  constantPool := pool
  accessFlags := fl
  thisClass := this
  superClass := sup
  interfaces := ifs
  fields := fds
  methods := ms
  attributes := attrs
def plain (name : String) (sup : Option ClassId) : Class where
  name := name
  kind := .ordinary
  loader := none
  accessFlags := 33
  super := sup
  interfaces := #[]
  cf := none
  fields := #[]
  methods := #[]
  instanceTypes := #[]
  staticTypes := #[]
  resolved := #[]
  callSites := []
  init := .initialized
  statics := none
  mirror := none

def pool0 : Array CpInfo := pool [(5, u "<init>"), (0, u "()V"), (1, .class_ 10), (1, u "java/lang/Object")] 113

def k0m0 : Method := { name := "<init>", desc := "()V", sig := { parameters := [], returnType := none }, accessFlags := 1, code := none }
/-- java/lang/Object -/
def k0 : Class := { plain "java/lang/Object" none with
  accessFlags := 33
  interfaces := #[]
  cf := some (fileOf pool0 8 #[] #[{ accessFlags := 1, nameIndex := 5, descriptorIndex := 6, attributes := #[] }] 33 0 #[] #[])
  fields := #[]
  methods := #[k0m0]
  instanceTypes := #[]
  staticTypes := #[]
  resolved := Array.replicate 124 none
  statics := none }

def pool1 : Array CpInfo := pool [(2, .class_ 4), (1, u "java/lang/Object"), (0, u "<init>"), (0, u "()V"), (0, .long 18014398509481983), (1, .integer 2147483647), (0, .long 480), (1, .long 512), (1, .long 32), (1, .methodref 17 18), (0, .class_ 19), (0, .nameAndType 20 21), (0, u "forelog/io/JournalBlocks"), (0, u "spent"), (0, u "(J)J"), (0, .class_ 23), (0, u "forelog/io/JournalBlocksSpentPinLaw"), (2, u "law"), (0, u "(JI)Z")] 3

def k1m0 : Method := { name := "<init>", desc := "()V", sig := { parameters := [], returnType := none }, accessFlags := 1, code := none }
def k1c1 : Code := { maxStack := 4, maxLocals := 11, code := code, exceptionTable := #[], attributes := #[] }
def k1m1 : Method := { name := "law", desc := "(JI)Z", sig := { parameters := [.long, .int], returnType := some .boolean }, accessFlags := 9, code := some k1c1 }
/-- forelog/io/JournalBlocksSpentPinLaw -/
def k1 : Class := { plain "forelog/io/JournalBlocksSpentPinLaw" (some 0) with
  accessFlags := 49
  interfaces := #[]
  cf := some (fileOf pool1 22 #[] #[{ accessFlags := 1, nameIndex := 5, descriptorIndex := 6, attributes := #[] }, { accessFlags := 9, nameIndex := 26, descriptorIndex := 27, attributes := #[] }] 49 2 #[] #[])
  fields := #[]
  methods := #[k1m0, k1m1]
  instanceTypes := #[]
  staticTypes := #[]
  resolved := Array.replicate 31 none
  statics := none }

def pool2 : Array CpInfo := pool [(1, .class_ 2), (0, u "forelog/io/JournalBlocks"), (1, .class_ 6), (1, u "java/lang/Object"), (18, u "file"), (0, u "Lforelog/io/DiskFile;"), (2, .long 512), (3, u "blocks"), (0, u "J"), (0, .long 480), (6, u "spent"), (0, u "(J)J"), (3, .long 32), (31, .class_ 80), (0, u "forelog/io/JournalBlocks$Header"), (97, u "BLOCK_BYTES"), (0, u "I"), (2, u "HEADER_BYTES"), (1, u "PAYLOAD_BYTES"), (1, u "CHECKED_BYTES"), (1, u "READ_BLOCKS")] 37

def k2c0 : Code := { maxStack := 6, maxLocals := 4, code := prog_37_method_5_code, exceptionTable := #[], attributes := #[] }
def k2m0 : Method := { name := "spent", desc := "(J)J", sig := { parameters := [.long], returnType := some .long }, accessFlags := 8, code := some k2c0 }
/-- forelog/io/JournalBlocks -/
def k2 : Class := { plain "forelog/io/JournalBlocks" (some 0) with
  accessFlags := 48
  interfaces := #[]
  cf := some (fileOf pool2 1 #[.nestMembers #[79]] #[{ accessFlags := 8, nameIndex := 42, descriptorIndex := 43, attributes := #[] }] 48 4 #[] #[{ accessFlags := 24, nameIndex := 178, descriptorIndex := 179, attributes := #[] }, { accessFlags := 24, nameIndex := 182, descriptorIndex := 179, attributes := #[] }, { accessFlags := 24, nameIndex := 184, descriptorIndex := 179, attributes := #[] }, { accessFlags := 26, nameIndex := 186, descriptorIndex := 179, attributes := #[] }, { accessFlags := 26, nameIndex := 188, descriptorIndex := 179, attributes := #[] }, { accessFlags := 18, nameIndex := 25, descriptorIndex := 26, attributes := #[] }, { accessFlags := 18, nameIndex := 33, descriptorIndex := 34, attributes := #[] }])
  fields := #[{ name := "BLOCK_BYTES", type := .int, accessFlags := 24, slot := 0, constantValue := 0 }, { name := "HEADER_BYTES", type := .int, accessFlags := 24, slot := 1, constantValue := 0 }, { name := "PAYLOAD_BYTES", type := .int, accessFlags := 24, slot := 2, constantValue := 0 }, { name := "CHECKED_BYTES", type := .int, accessFlags := 26, slot := 3, constantValue := 0 }, { name := "READ_BLOCKS", type := .int, accessFlags := 26, slot := 4, constantValue := 0 }, { name := "file", type := (.object "forelog/io/DiskFile"), accessFlags := 18, slot := 0, constantValue := 0 }, { name := "blocks", type := .long, accessFlags := 18, slot := 1, constantValue := 0 }]
  methods := #[k2m0]
  instanceTypes := #[(.object "forelog/io/DiskFile"), .long]
  staticTypes := #[.int, .int, .int, .int, .int]
  resolved := Array.replicate 226 none
  statics := none }

def pool3 : Array CpInfo := pool [(1, u "java/lang/Cloneable"), (0, .class_ 1), (0, u "java/lang/Object"), (0, .class_ 3)] 3

/-- java/lang/Cloneable -/
def k3 : Class := { plain "java/lang/Cloneable" (some 0) with
  accessFlags := 1537
  interfaces := #[]
  cf := some (fileOf pool3 2 #[] #[] 1537 4 #[] #[])
  fields := #[]
  methods := #[]
  instanceTypes := #[]
  staticTypes := #[]
  resolved := Array.replicate 8 none
  statics := none }

def pool4 : Array CpInfo := pool [(1, u "java/io/Serializable"), (0, .class_ 1), (0, u "java/lang/Object"), (0, .class_ 3)] 3

/-- java/io/Serializable -/
def k4 : Class := { plain "java/io/Serializable" (some 0) with
  accessFlags := 1537
  interfaces := #[]
  cf := some (fileOf pool4 2 #[] #[] 1537 4 #[] #[])
  fields := #[]
  methods := #[]
  instanceTypes := #[]
  staticTypes := #[]
  resolved := Array.replicate 8 none
  statics := none }

/-- the primitive byte -/
def k5 : Class := { plain "byte" none with kind := .primitive 'B', accessFlags := 0x411 }
/-- [B -/
def k6 : Class := { plain "[B" (some 0) with kind := .array 5 .byte, interfaces := #[3, 4], accessFlags := 1041 }

/-- the primitive int -/
def k7 : Class := { plain "int" none with kind := .primitive 'I', accessFlags := 0x411 }
/-- [I -/
def k8 : Class := { plain "[I" (some 0) with kind := .array 7 .int, interfaces := #[3, 4], accessFlags := 1041 }

def heap : Heap := #[]
def classes : Array Class := #[k0, k1, k2, k3, k4, k5, k6, k7, k8]
def interned : List (Array UInt16 × Addr) := []
def slotsUsed : Nat := 0
def theMethod : MethodId := ⟨1, 1⟩
def args0 : Array Value := #[.long 5, .int 7]
def aboutOver (below : List Frame) : State where
  vm := { classes := classes, interned := interned.toArray }
  heap := heap
  slotsUsed := slotsUsed
  threads := #[{ frames := .invoking theMethod args0 :: below }]
def below0 : List Frame := [.native { method := ⟨0, 0⟩, args := #[] }]
def about1 : State := aboutOver below0
def p0 : Program := .bare "" "" ""
def e0 : Env := launch0.env 0 0 0
theorem w_frames : about1.frames = Frame.invoking theMethod args0 :: below0 := rfl
set_option maxRecDepth 65536 in
theorem w_args : argsFit about1.vm theMethod args0 = true := by decide +kernel
set_option maxRecDepth 65536 in
theorem w_heap : heapFits about1 = true := by decide +kernel
set_option maxRecDepth 65536 in
theorem w_runnable : about1.curStatus? = some .runnable := by decide +kernel
set_option maxRecDepth 65536 in
theorem w_alone : about1.alone = true := by decide +kernel
set_option maxRecDepth 65536 in
theorem w_named : about1.methodNamed? x = some theMethod := by decide +kernel
set_option maxRecDepth 65536 in
theorem w_hears : about1.hears theMethod below0 = true := by decide +kernel
set_option maxRecDepth 65536 in
theorem w_ripe : about1.ripe theMethod args0 below0 = true := by decide +kernel
theorem w_running : about1.status = .running := rfl
set_option maxRecDepth 65536 in
theorem w_room : about1.hasRoom e0.platform room_1 = true :=
  launch0.hasRoom_least _ room_1 (by decide +kernel) (by decide +kernel) (by decide +kernel) (by decide +kernel) (by decide +kernel) (by decide +kernel)
theorem allAtoms_all (ts : List Jvm.Cond) (a : Array Jvm.Value) (st : Jvm.State) : (allAtoms ts).before a st = ts.all (fun c => c.before a st) := by
  induction ts with
  | nil => rfl
  | cons c t ih =>
    show (Jvm.Cond.and c (allAtoms t)).before a st = _
    rw [Jvm.Cond.before_and, ih, List.all_cons]
def words1 : List Jvm.Cond := Jvm.Cond.code x code maxLocals ret :: tables_1
/-- a 'code' word, met by the world's own term for the bytes: nothing is compared byte by byte -/
theorem code_word {y : MethodName} {bytes : ByteArray} {mx : Nat} {rt : Option FieldType} {a : Array Value} {s : State} {m : MethodId} {meth : Method} {c : Code} (h1 : s.methodNamed? y = some m) (h2 : s.vm.method? m = some meth) (h3 : meth.code = some c) (h4 : c.code = bytes)
    (h5 : (c.maxLocals == mx && c.exceptionTable.isEmpty && decide (c.maxStack ≤ mostOperands) && decide (meth.sig.returnType = rt) && !meth.locks && decide (parseMethodDescriptor y.desc = some meth.sig)) = true) : (Jvm.Cond.code y bytes mx rt).before a s = true := by
  simp only [Bool.and_eq_true, beq_iff_eq, Bool.not_eq_true', decide_eq_true_eq] at h5
  obtain ⟨⟨⟨⟨⟨g1, g2⟩, g3⟩, g4⟩, g5⟩, g6⟩ := h5
  simp [Cond.before, Cond.holds, Cond.value, h1, h2, h3, h4, g1, g2, g3, g4, g5, g6]
def isCode : Jvm.Cond → Bool
  | .code _ _ _ _ => true
  | _ => false
theorem all_split {L : List Jvm.Cond} {P : Jvm.Cond → Bool} (h1 : L.all (fun c => isCode c || P c) = true) (h2 : ∀ c ∈ L.filter isCode, P c = true) : L.all P = true := by
  refine List.all_eq_true.mpr fun c hc => ?_
  have h := List.all_eq_true.mp h1 c hc
  rcases Bool.eq_false_or_eq_true (isCode c) with hi | hi
  · exact h2 c (List.mem_filter.mpr ⟨hc, hi⟩)
  · simpa [hi] using h
set_option maxRecDepth 65536 in
theorem w_c0 : (Jvm.Cond.code x code maxLocals ret).before args0 about1 = true := code_word (m := ⟨1, 1⟩) (meth := k1m1) (c := k1c1) (by decide +kernel) rfl rfl rfl (by decide +kernel)
set_option maxRecDepth 65536 in
theorem w_c1 : (Jvm.Cond.code ({ cls := "forelog/io/JournalBlocks", name := "spent", desc := "(J)J" } : Jvm.MethodName) prog_37_method_5_code (4 : Nat) (Option.some Jvm.ClassFile.FieldType.long)).before args0 about1 = true := code_word (m := ⟨2, 0⟩) (meth := k2m0) (c := k2c0) (by decide +kernel) rfl rfl rfl (by decide +kernel)
def codes1 : List Jvm.Cond := [Jvm.Cond.code x code maxLocals ret, Jvm.Cond.code ({ cls := "forelog/io/JournalBlocks", name := "spent", desc := "(J)J" } : Jvm.MethodName) prog_37_method_5_code (4 : Nat) (Option.some Jvm.ClassFile.FieldType.long)]
set_option maxRecDepth 65536 in
theorem codes_eq : words1.filter isCode = codes1 := rfl
theorem w_codes : ∀ c ∈ words1.filter isCode, c.before args0 about1 = true := by
  rw [codes_eq]
  intro c hc
  simp only [codes1, List.mem_cons, List.not_mem_nil, or_false] at hc
  rcases hc with rfl | rfl
  · exact w_c0
  · exact w_c1
set_option maxRecDepth 65536 in
theorem w_t1 : words1.all (fun c => isCode c || c.before args0 about1) = true := by decide +kernel
theorem w_tables : (allAtoms (Jvm.Cond.code x code maxLocals ret :: tables_1)).before args0 about1 = true := by
  rw [allAtoms_all]
  show words1.all (fun c => c.before args0 about1) = true
  refine all_split ?_ w_codes
  rw [w_t1]
set_option maxRecDepth 65536 in
theorem w_case : (Jvm.Cond.and given_1 narrow_1).before args0 about1 = true := by decide +kernel
theorem w_applies : (headSpec (Jvm.Cond.code x code maxLocals ret :: tables_1) room_1).applies x e0.platform about1 = true :=
  (Spec.applies_iff w_frames).mpr ⟨w_running, w_runnable, w_alone, w_named, w_hears, w_ripe, w_room, w_tables⟩
theorem atStart : AtStart classFile x code maxLocals ret World_1 tables_1 room_1 Calls_1 rest_1 Pre_1 launch0 p0 e0 about1 theMethod args0 below0 :=
  ⟨lists_1, trivial, launch0.admits_env _ _ _, launch0.least_env, fairChoices_fair.cas, fairChoices_fair.clock, w_frames, w_args, w_heap, w_applies, trivial, trivial, w_case⟩
end start1
theorem witness_1 : WitnessClaimed_1 := ⟨start1.p0, start1.e0, start1.about1, start1.theMethod, start1.args0, start1.below0, start1.atStart⟩
end Jvm.Pilot.@@N@@
