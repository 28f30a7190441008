import JvmDerived
import JvmDerived.Pilot.@@N@@Statement
import JvmDerived.Pilot.@@N@@Code
set_option linter.unusedVariables false
set_option linter.unusedSimpArgs false
namespace Jvm.RoadKit
open Sem ClassFile Op Lib Jvm.Stand Jvm.Free Jvm.LawKit
section New
variable {p : Program} {l : Launch} {e : Env} {R : Room} {s : State} {m : MethodId} {args : Array Value} {below : List Frame} {meth : Method} {c : Code} {T : State} {locs : List Loc} {cells slots : Nat}
theorem retI (X : Stand p l e R s m args below meth c T locs cells slots) (hx : p.tables.exec = Jvm.exec) {pc : Nat} {Ls : Array Slot} {z : Int32} {rest : List Value} (hret : meth.sig.returnType = some .int) (hd : decode c.code pc = .ok (.ireturn, 1)) {fs : List Frame}
    (hl : ∀ (f : JFrame) (acts : List Action), f.method = m → f.locked = none → f.entered = [] → (doReturn e (T.setTop f) acts (some (.int z))).1 = T.setFrames fs) : Steps p.tables e below (T.setTop (mkF m pc Ls (.int z :: rest))) (T.setFrames fs) := by
  have hm' : T.vm.method? m = some meth := X.method'
  have hn : narrow .int (.int z) = .int z := rfl
  show Steps p.tables e below (T.setTop { method := m, pc := pc, locals := Ls, stack := _ :: rest, locked := none }) _
  jvm_step X.here [X.here.top, hx, hd, hm', hret, hn]
  first | (intro acts; rw [hl _ acts rfl rfl rfl]) | rw [hl _ _ rfl rfl rfl]
  exact Steps.refl _
end New
end Jvm.RoadKit
namespace Jvm.Pilot.@@N@@
open Jvm Jvm.ClassFile Sem Op Lib Jvm.Free Jvm.Stand Jvm.LawKit Jvm.RoadKit Bundle Jvm.Pilot.@@N@@.Jvm.D
def own_hi (q : Int64) : Int32 := ((q.toUInt64 >>> ((32 : Int32) &&& 0x3f).toInt64.toUInt64).toInt64).toInt32
theorem d1_0 : decode prog_3_method_1_code 0 = .ok (.aload_n 0, 1) := by decide +kernel
theorem d1_1 : decode prog_3_method_1_code 1 = .ok (.invokespecial 1, 3) := by decide +kernel
theorem d1_4 : decode prog_3_method_1_code 4 = .ok (.aload_n 0, 1) := by decide +kernel
theorem d1_5 : decode prog_3_method_1_code 5 = .ok (.iload_n 1, 1) := by decide +kernel
theorem d1_6 : decode prog_3_method_1_code 6 = .ok (.putfield 7, 3) := by decide +kernel
theorem d1_9 : decode prog_3_method_1_code 9 = .ok (.aload_n 0, 1) := by decide +kernel
theorem d1_10 : decode prog_3_method_1_code 10 = .ok (.iload_n 2, 1) := by decide +kernel
theorem d1_11 : decode prog_3_method_1_code 11 = .ok (.putfield 13, 3) := by decide +kernel
theorem d1_14 : decode prog_3_method_1_code 14 = .ok (.aload_n 0, 1) := by decide +kernel
theorem d1_15 : decode prog_3_method_1_code 15 = .ok (.iload_n 3, 1) := by decide +kernel
theorem d1_16 : decode prog_3_method_1_code 16 = .ok (.putfield 16, 3) := by decide +kernel
theorem d1_19 : decode prog_3_method_1_code 19 = .ok (.aload_n 0, 1) := by decide +kernel
theorem d1_20 : decode prog_3_method_1_code 20 = .ok (.iload 4, 2) := by decide +kernel
theorem d1_22 : decode prog_3_method_1_code 22 = .ok (.putfield 19, 3) := by decide +kernel
theorem d1_25 : decode prog_3_method_1_code 25 = .ok (.return_, 1) := by decide +kernel
theorem pn_com_example_sonar_sweep_sonarsweep_crawl_CrawlSummary : plainName "com/example/sonar_sweep/sonarsweep/crawl/CrawlSummary" = true := by first | (simp [plainName, overriddenIn]; done) | decide +kernel
theorem ef_rm1 (m : MethodId) (x0 : Addr) (x1 : Int32) (x2 : Int32) (x3 : Int32) (x4 : Int32) : entryFrame m #[(.ref x0), (.int x1), (.int x2), (.int x3), (.int x4)] 5 = mkF m 0 #[.val (.ref x0), .val (.int x1), .val (.int x2), .val (.int x3), .val (.int x4)] [] := by first | (simp [entryFrame, mkF, argsToLocals, Value.category]; done) | rfl
def Qrm1 (Z : State) (a1 : Addr) (p2 : Int32) (p3 : Int32) (p4 : Int32) (p5 : Int32)  (h0 : Heap) (n0 : Nat) (v : Option Value) (h : Heap) (L : List Loc) : Prop := v = none ∧ Fr n0 L ∧ Keep h0 h [a1] ∧ Exa Z h a1 "com/example/sonar_sweep/sonarsweep/crawl/CrawlSummary" ∧ Fld Z h a1 "com/example/sonar_sweep/sonarsweep/crawl/CrawlSummary" "pages" "I" (.int p2) ∧ Fld Z h a1 "com/example/sonar_sweep/sonarsweep/crawl/CrawlSummary" "forms" "I" (.int p3) ∧ Fld Z h a1 "com/example/sonar_sweep/sonarsweep/crawl/CrawlSummary" "searchable" "I" (.int p4) ∧ Fld Z h a1 "com/example/sonar_sweep/sonarsweep/crawl/CrawlSummary" "sites" "I" (.int p5)
set_option maxRecDepth 65536 in
set_option maxHeartbeats 40000000 in
theorem rm1 (l : Launch) (Z : State) (a0 : Array Value) (hw : ∀ d ∈ tables_1, d.before a0 Z = true) (ws : List Jvm.Cond) (a1 : Addr) (p2 : Int32) (p3 : Int32) (p4 : Int32) (p5 : Int32)  (h0 : Heap) (n0 : Nat) (Z0 : n0 ≤ h0.size) (E_a1 : Exa Z h0 a1 "com/example/sonar_sweep/sonarsweep/crawl/CrawlSummary") (g_a1 : n0 ≤ a1) (F_pages : Fld Z h0 a1 "com/example/sonar_sweep/sonarsweep/crawl/CrawlSummary" "pages" "I" (.int (0 : Int32))) (F_forms : Fld Z h0 a1 "com/example/sonar_sweep/sonarsweep/crawl/CrawlSummary" "forms" "I" (.int (0 : Int32))) (F_searchable : Fld Z h0 a1 "com/example/sonar_sweep/sonarsweep/crawl/CrawlSummary" "searchable" "I" (.int (0 : Int32))) (F_sites : Fld Z h0 a1 "com/example/sonar_sweep/sonarsweep/crawl/CrawlSummary" "sites" "I" (.int (0 : Int32))) :
    MetFree l (⟨"com/example/sonar_sweep/sonarsweep/crawl/CrawlSummary", "<init>", "(IIII)V"⟩ : MethodName) (head1 (Jvm.Cond.code (⟨"com/example/sonar_sweep/sonarsweep/crawl/CrawlSummary", "<init>", "(IIII)V"⟩ : MethodName) prog_3_method_1_code 5 none :: ws) ({ frames := 1, cells := 0, slots := 0, locals := 12 } : Room)) (fun a U => a = #[(.ref a1), (.int p2), (.int p3), (.int p4), (.int p5)] ∧ Z.Warmed39 U.vm ∧ U.heap = h0) (fun _ _ _ _ _ => True) (fun _ U o U' => ∃ v L, o = .returned v ∧ Qrm1 Z a1 p2 p3 p4 p5  h0 n0 v U'.heap L ∧ FrameEnd U o U' L ({ frames := 1, cells := 0, slots := 0, locals := 12 } : Room).cells ({ frames := 1, cells := 0, slots := 0, locals := 12 } : Room).slots) := by
  refine MetFree.of_bodySF (plainFor_of_name pn_com_example_sonar_sweep_sonarsweep_crawl_CrawlSummary) hisR ?_
  intro p e s m args below meth c s₁ Bd hml0 hP hK
  obtain ⟨rfl, hZ, hh⟩ := hP
  have hx := Bd.exec
  have hby := Bd.bytes
  have hml : c.maxLocals = 5 := hml0
  have hown : s.vm.findClass "com/example/sonar_sweep/sonarsweep/crawl/CrawlSummary" = some m.cls := findClass_of_methodNamed Bd.named
  have hnm := (name_of_methodNamed Bd.named Bd.method).1
  have X0 : Stand p l e ({ frames := 1, cells := 0, slots := 0, locals := 12 } : Room) s m #[(.ref a1), (.int p2), (.int p3), (.int p4), (.int p5)] below meth c s₁ [] 0 0 := Stand.of_body Bd
  have e0 : s₁.heap = h0 := by rw [← hh, Bd.state]; rfl
  have N0 := Fr.nil n0
  have pre0 : ∀ t, Steps p.tables e below (s₁.setTop (mkF m 0 #[.val (.ref a1), .val (.int p2), .val (.int p3), .val (.int p4), .val (.int p5)] [])) t → Steps p.tables e below (s₁.setTop (entryFrame m #[(.ref a1), (.int p2), (.int p3), (.int p4), (.int p5)] 5)) t := fun t k => castTop (ef_rm1 m a1 p2 p3 p4 p5) k
  obtain ⟨T1, X1, e1, st1⟩ := initO X0 hx hZ hown (hw _ (List.mem_of_getElem? (i := 6) rfl)) (hw _ (List.mem_of_getElem? (i := 7) rfl)) (hw _ (List.mem_of_getElem? (i := 8) rfl)) e0 (g := (mkF m 1 #[.val (.ref a1), .val (.int p2), .val (.int p3), .val (.int p4), .val (.int p5)] [(.ref a1)])) rfl (by rw [hml]; rfl) rfl (hb hby d1_1) (by decide) (W := 0) (by show 2 * 0 + _ ≤ _; exact Nat.le_of_eq rfl) (by decide)
  obtain ⟨T2, h2, X2, e2, W2, st2⟩ := putF X1 hx hZ hown (host := "") (Or.inl (hw _ (List.mem_of_getElem? (i := 9) rfl))) Via.refl e1 F_pages E_a1 (Or.inr ⟨(hw _ (List.mem_of_getElem? (i := 10) rfl)), rfl, hnm⟩) (hw _ (List.mem_of_getElem? (i := 1) rfl)) (ty := .int) (by decide) rfl rfl (g := (mkF m 6 #[.val (.ref a1), .val (.int p2), .val (.int p3), .val (.int p4), .val (.int p5)] [(.int p2), (.ref a1)])) rfl rfl (hb hby d1_6)
  have Z3 : n0 ≤ h2.size := Nat.le_trans Z0 (Keep.of_wr W2).1
  have Fw2 := F_pages.same W2
  have N2 := Fr.snoc X2 N0 g_a1
  have f4 := F_forms.other W2 (Or.inr (slot_ne (Or.inr (hw _ (List.mem_of_getElem? (i := 12) rfl))) (Or.inr (hw _ (List.mem_of_getElem? (i := 10) rfl))) (by decide) (t := .int) (t' := .int) (by decide) (by decide)))
  have f5 := E_a1.wr W2
  obtain ⟨T6, h6, X6, e6, W6, st6⟩ := putF X2 hx hZ hown (host := "") (Or.inl (hw _ (List.mem_of_getElem? (i := 11) rfl))) Via.refl e2 f4 f5 (Or.inr ⟨(hw _ (List.mem_of_getElem? (i := 12) rfl)), rfl, hnm⟩) (hw _ (List.mem_of_getElem? (i := 1) rfl)) (ty := .int) (by decide) rfl rfl (g := (mkF m 11 #[.val (.ref a1), .val (.int p2), .val (.int p3), .val (.int p4), .val (.int p5)] [(.int p3), (.ref a1)])) rfl rfl (hb hby d1_11)
  have Z7 : n0 ≤ h6.size := Nat.le_trans Z3 (Keep.of_wr W6).1
  have Fw6 := f4.same W6
  have N6 := Fr.snoc X6 N2 g_a1
  have f8 := F_searchable.other W2 (Or.inr (slot_ne (Or.inr (hw _ (List.mem_of_getElem? (i := 14) rfl))) (Or.inr (hw _ (List.mem_of_getElem? (i := 10) rfl))) (by decide) (t := .int) (t' := .int) (by decide) (by decide)))
  have f9 := f8.other W6 (Or.inr (slot_ne (Or.inr (hw _ (List.mem_of_getElem? (i := 14) rfl))) (Or.inr (hw _ (List.mem_of_getElem? (i := 12) rfl))) (by decide) (t := .int) (t' := .int) (by decide) (by decide)))
  have f10 := f5.wr W6
  obtain ⟨T11, h11, X11, e11, W11, st11⟩ := putF X6 hx hZ hown (host := "") (Or.inl (hw _ (List.mem_of_getElem? (i := 13) rfl))) Via.refl e6 f9 f10 (Or.inr ⟨(hw _ (List.mem_of_getElem? (i := 14) rfl)), rfl, hnm⟩) (hw _ (List.mem_of_getElem? (i := 1) rfl)) (ty := .int) (by decide) rfl rfl (g := (mkF m 16 #[.val (.ref a1), .val (.int p2), .val (.int p3), .val (.int p4), .val (.int p5)] [(.int p4), (.ref a1)])) rfl rfl (hb hby d1_16)
  have Z12 : n0 ≤ h11.size := Nat.le_trans Z7 (Keep.of_wr W11).1
  have Fw11 := f9.same W11
  have N11 := Fr.snoc X11 N6 g_a1
  have f13 := F_sites.other W2 (Or.inr (slot_ne (Or.inr (hw _ (List.mem_of_getElem? (i := 16) rfl))) (Or.inr (hw _ (List.mem_of_getElem? (i := 10) rfl))) (by decide) (t := .int) (t' := .int) (by decide) (by decide)))
  have f14 := f13.other W6 (Or.inr (slot_ne (Or.inr (hw _ (List.mem_of_getElem? (i := 16) rfl))) (Or.inr (hw _ (List.mem_of_getElem? (i := 12) rfl))) (by decide) (t := .int) (t' := .int) (by decide) (by decide)))
  have f15 := f14.other W11 (Or.inr (slot_ne (Or.inr (hw _ (List.mem_of_getElem? (i := 16) rfl))) (Or.inr (hw _ (List.mem_of_getElem? (i := 14) rfl))) (by decide) (t := .int) (t' := .int) (by decide) (by decide)))
  have f16 := f10.wr W11
  obtain ⟨T17, h17, X17, e17, W17, st17⟩ := putF X11 hx hZ hown (host := "") (Or.inl (hw _ (List.mem_of_getElem? (i := 15) rfl))) Via.refl e11 f15 f16 (Or.inr ⟨(hw _ (List.mem_of_getElem? (i := 16) rfl)), rfl, hnm⟩) (hw _ (List.mem_of_getElem? (i := 1) rfl)) (ty := .int) (by decide) rfl rfl (g := (mkF m 22 #[.val (.ref a1), .val (.int p2), .val (.int p3), .val (.int p4), .val (.int p5)] [(.int p5), (.ref a1)])) rfl rfl (hb hby d1_22)
  have Z18 : n0 ≤ h17.size := Nat.le_trans Z12 (Keep.of_wr W17).1
  have Fw17 := f15.same W17
  have N17 := Fr.snoc X17 N11 g_a1
  have f19 := f16.wr W17
  have f20 := Fw2.other W6 (Or.inr (slot_ne (Or.inr (hw _ (List.mem_of_getElem? (i := 10) rfl))) (Or.inr (hw _ (List.mem_of_getElem? (i := 12) rfl))) (by decide) (t := .int) (t' := .int) (by decide) (by decide)))
  have f21 := f20.other W11 (Or.inr (slot_ne (Or.inr (hw _ (List.mem_of_getElem? (i := 10) rfl))) (Or.inr (hw _ (List.mem_of_getElem? (i := 14) rfl))) (by decide) (t := .int) (t' := .int) (by decide) (by decide)))
  have f22 := f21.other W17 (Or.inr (slot_ne (Or.inr (hw _ (List.mem_of_getElem? (i := 10) rfl))) (Or.inr (hw _ (List.mem_of_getElem? (i := 16) rfl))) (by decide) (t := .int) (t' := .int) (by decide) (by decide)))
  have f23 := Fw6.other W11 (Or.inr (slot_ne (Or.inr (hw _ (List.mem_of_getElem? (i := 12) rfl))) (Or.inr (hw _ (List.mem_of_getElem? (i := 14) rfl))) (by decide) (t := .int) (t' := .int) (by decide) (by decide)))
  have f24 := f23.other W17 (Or.inr (slot_ne (Or.inr (hw _ (List.mem_of_getElem? (i := 12) rfl))) (Or.inr (hw _ (List.mem_of_getElem? (i := 16) rfl))) (by decide) (t := .int) (t' := .int) (by decide) (by decide)))
  have f25 := Fw11.other W17 (Or.inr (slot_ne (Or.inr (hw _ (List.mem_of_getElem? (i := 14) rfl))) (Or.inr (hw _ (List.mem_of_getElem? (i := 16) rfl))) (by decide) (t := .int) (t' := .int) (by decide) (by decide)))
  obtain ⟨fs, hr, hrun, hended, hW, hsame⟩ := X17.leave (v := none) (fun _ => rfl)
  refine ⟨_, _, pre0 _ ?_, hrun, hended, _, _, rfl, ?_, ⟨_, rfl⟩, hW, hsame.mono (by decide) (by decide)⟩
  · show Steps p.tables e below (s₁.setTop (mkF m 0 #[.val (.ref a1), .val (.int p2), .val (.int p3), .val (.int p4), .val (.int p5)] [])) _
    refine XS.aloadN X0.here hx rfl (hb hby d1_0) rfl rfl ?_
    show Steps p.tables e below (s₁.setTop (mkF m 1 #[.val (.ref a1), .val (.int p2), .val (.int p3), .val (.int p4), .val (.int p5)] [(.ref a1)])) _
    refine st1 _ ?_
    show Steps p.tables e below (T1.setTop (mkF m 4 #[.val (.ref a1), .val (.int p2), .val (.int p3), .val (.int p4), .val (.int p5)] [])) _
    refine XS.aloadN X1.here hx rfl (hb hby d1_4) rfl rfl ?_
    show Steps p.tables e below (T1.setTop (mkF m 5 #[.val (.ref a1), .val (.int p2), .val (.int p3), .val (.int p4), .val (.int p5)] [(.ref a1)])) _
    refine XS.iloadN X1.here hx rfl (hb hby d1_5) rfl ?_
    show Steps p.tables e below (T1.setTop (mkF m 6 #[.val (.ref a1), .val (.int p2), .val (.int p3), .val (.int p4), .val (.int p5)] [(.int p2), (.ref a1)])) _
    refine st2 _ ?_
    show Steps p.tables e below (T2.setTop (mkF m 9 #[.val (.ref a1), .val (.int p2), .val (.int p3), .val (.int p4), .val (.int p5)] [])) _
    refine XS.aloadN X2.here hx rfl (hb hby d1_9) rfl rfl ?_
    show Steps p.tables e below (T2.setTop (mkF m 10 #[.val (.ref a1), .val (.int p2), .val (.int p3), .val (.int p4), .val (.int p5)] [(.ref a1)])) _
    refine XS.iloadN X2.here hx rfl (hb hby d1_10) rfl ?_
    show Steps p.tables e below (T2.setTop (mkF m 11 #[.val (.ref a1), .val (.int p2), .val (.int p3), .val (.int p4), .val (.int p5)] [(.int p3), (.ref a1)])) _
    refine st6 _ ?_
    show Steps p.tables e below (T6.setTop (mkF m 14 #[.val (.ref a1), .val (.int p2), .val (.int p3), .val (.int p4), .val (.int p5)] [])) _
    refine XS.aloadN X6.here hx rfl (hb hby d1_14) rfl rfl ?_
    show Steps p.tables e below (T6.setTop (mkF m 15 #[.val (.ref a1), .val (.int p2), .val (.int p3), .val (.int p4), .val (.int p5)] [(.ref a1)])) _
    refine XS.iloadN X6.here hx rfl (hb hby d1_15) rfl ?_
    show Steps p.tables e below (T6.setTop (mkF m 16 #[.val (.ref a1), .val (.int p2), .val (.int p3), .val (.int p4), .val (.int p5)] [(.int p4), (.ref a1)])) _
    refine st11 _ ?_
    show Steps p.tables e below (T11.setTop (mkF m 19 #[.val (.ref a1), .val (.int p2), .val (.int p3), .val (.int p4), .val (.int p5)] [])) _
    refine XS.aloadN X11.here hx rfl (hb hby d1_19) rfl rfl ?_
    show Steps p.tables e below (T11.setTop (mkF m 20 #[.val (.ref a1), .val (.int p2), .val (.int p3), .val (.int p4), .val (.int p5)] [(.ref a1)])) _
    refine XS.iload X11.here hx rfl (hb hby d1_20) rfl ?_
    show Steps p.tables e below (T11.setTop (mkF m 22 #[.val (.ref a1), .val (.int p2), .val (.int p3), .val (.int p4), .val (.int p5)] [(.int p5), (.ref a1)])) _
    refine st17 _ ?_
    show Steps p.tables e below (T17.setTop (mkF m 25 #[.val (.ref a1), .val (.int p2), .val (.int p3), .val (.int p4), .val (.int p5)] [])) _
    exact X17.returnOut hx Bd.returns (hb hby d1_25) hr
  · show Qrm1 Z a1 p2 p3 p4 p5  h0 n0 _ T17.heap _
    rw [e17]
    exact ⟨rfl, N17, (((((Keep.refl h0 [a1]).wr W2 (Or.inl (List.mem_of_getElem? (i := 0) rfl))).wr W6 (Or.inl (List.mem_of_getElem? (i := 0) rfl))).wr W11 (Or.inl (List.mem_of_getElem? (i := 0) rfl))).wr W17 (Or.inl (List.mem_of_getElem? (i := 0) rfl))), f19, f22, f24, f25, Fw17⟩
theorem d3_0 : decode prog_3_method_6_code 0 = .ok (.new 8, 3) := by decide +kernel
theorem d3_3 : decode prog_3_method_6_code 3 = .ok (.dup, 1) := by decide +kernel
theorem d3_4 : decode prog_3_method_6_code 4 = .ok (.aload_n 0, 1) := by decide +kernel
theorem d3_5 : decode prog_3_method_6_code 5 = .ok (.getfield 7, 3) := by decide +kernel
theorem d3_8 : decode prog_3_method_6_code 8 = .ok (.aload_n 1, 1) := by decide +kernel
theorem d3_9 : decode prog_3_method_6_code 9 = .ok (.getfield 7, 3) := by decide +kernel
theorem d3_12 : decode prog_3_method_6_code 12 = .ok (.iadd, 1) := by decide +kernel
theorem d3_13 : decode prog_3_method_6_code 13 = .ok (.aload_n 0, 1) := by decide +kernel
theorem d3_14 : decode prog_3_method_6_code 14 = .ok (.getfield 13, 3) := by decide +kernel
theorem d3_17 : decode prog_3_method_6_code 17 = .ok (.aload_n 1, 1) := by decide +kernel
theorem d3_18 : decode prog_3_method_6_code 18 = .ok (.getfield 13, 3) := by decide +kernel
theorem d3_21 : decode prog_3_method_6_code 21 = .ok (.iadd, 1) := by decide +kernel
theorem d3_22 : decode prog_3_method_6_code 22 = .ok (.aload_n 0, 1) := by decide +kernel
theorem d3_23 : decode prog_3_method_6_code 23 = .ok (.getfield 16, 3) := by decide +kernel
theorem d3_26 : decode prog_3_method_6_code 26 = .ok (.aload_n 1, 1) := by decide +kernel
theorem d3_27 : decode prog_3_method_6_code 27 = .ok (.getfield 16, 3) := by decide +kernel
theorem d3_30 : decode prog_3_method_6_code 30 = .ok (.iadd, 1) := by decide +kernel
theorem d3_31 : decode prog_3_method_6_code 31 = .ok (.aload_n 0, 1) := by decide +kernel
theorem d3_32 : decode prog_3_method_6_code 32 = .ok (.getfield 19, 3) := by decide +kernel
theorem d3_35 : decode prog_3_method_6_code 35 = .ok (.aload_n 1, 1) := by decide +kernel
theorem d3_36 : decode prog_3_method_6_code 36 = .ok (.getfield 19, 3) := by decide +kernel
theorem d3_39 : decode prog_3_method_6_code 39 = .ok (.iadd, 1) := by decide +kernel
theorem d3_40 : decode prog_3_method_6_code 40 = .ok (.invokespecial 22, 3) := by decide +kernel
theorem pd_0 : parseMethodDescriptor "(IIII)V" = some ⟨[.int, .int, .int, .int], none⟩ := by decide +kernel
theorem d3_43 : decode prog_3_method_6_code 43 = .ok (.areturn, 1) := by decide +kernel
theorem ef_rm3 (m : MethodId) (x0 : Addr) (x1 : Addr) : entryFrame m #[(.ref x0), (.ref x1)] 2 = mkF m 0 #[.val (.ref x0), .val (.ref x1)] [] := by first | (simp [entryFrame, mkF, argsToLocals, Value.category]; done) | rfl
def Qrm3 (Z : State) (a1 : Addr) (a2 : Addr) (pages_a1 : Int32) (forms_a1 : Int32) (searchable_a1 : Int32) (sites_a1 : Int32) (pages_a2 : Int32) (forms_a2 : Int32) (searchable_a2 : Int32) (sites_a2 : Int32) (h0 : Heap) (n0 : Nat) (v : Option Value) (h : Heap) (L : List Loc) : Prop := ∃ b : Addr, v = some (.ref b) ∧ Fr n0 L ∧ Keep h0 h [] ∧ n0 ≤ b ∧ Exa Z h b "com/example/sonar_sweep/sonarsweep/crawl/CrawlSummary" ∧ Fld Z h b "com/example/sonar_sweep/sonarsweep/crawl/CrawlSummary" "pages" "I" (.int (pages_a1 + pages_a2)) ∧ Fld Z h b "com/example/sonar_sweep/sonarsweep/crawl/CrawlSummary" "forms" "I" (.int (forms_a1 + forms_a2)) ∧ Fld Z h b "com/example/sonar_sweep/sonarsweep/crawl/CrawlSummary" "searchable" "I" (.int (searchable_a1 + searchable_a2)) ∧ Fld Z h b "com/example/sonar_sweep/sonarsweep/crawl/CrawlSummary" "sites" "I" (.int (sites_a1 + sites_a2))
set_option maxRecDepth 65536 in
set_option maxHeartbeats 40000000 in
theorem rm3 (l : Launch) (Z : State) (a0 : Array Value) (hw : ∀ d ∈ tables_1, d.before a0 Z = true) (ws : List Jvm.Cond) (a1 : Addr) (a2 : Addr) (pages_a1 : Int32) (forms_a1 : Int32) (searchable_a1 : Int32) (sites_a1 : Int32) (pages_a2 : Int32) (forms_a2 : Int32) (searchable_a2 : Int32) (sites_a2 : Int32) (h0 : Heap) (n0 : Nat) (Z0 : n0 ≤ h0.size) (F_pages_a1 : Fld Z h0 a1 "com/example/sonar_sweep/sonarsweep/crawl/CrawlSummary" "pages" "I" (.int pages_a1)) (F_forms_a1 : Fld Z h0 a1 "com/example/sonar_sweep/sonarsweep/crawl/CrawlSummary" "forms" "I" (.int forms_a1)) (F_searchable_a1 : Fld Z h0 a1 "com/example/sonar_sweep/sonarsweep/crawl/CrawlSummary" "searchable" "I" (.int searchable_a1)) (F_sites_a1 : Fld Z h0 a1 "com/example/sonar_sweep/sonarsweep/crawl/CrawlSummary" "sites" "I" (.int sites_a1)) (F_pages_a2 : Fld Z h0 a2 "com/example/sonar_sweep/sonarsweep/crawl/CrawlSummary" "pages" "I" (.int pages_a2)) (F_forms_a2 : Fld Z h0 a2 "com/example/sonar_sweep/sonarsweep/crawl/CrawlSummary" "forms" "I" (.int forms_a2)) (F_searchable_a2 : Fld Z h0 a2 "com/example/sonar_sweep/sonarsweep/crawl/CrawlSummary" "searchable" "I" (.int searchable_a2)) (F_sites_a2 : Fld Z h0 a2 "com/example/sonar_sweep/sonarsweep/crawl/CrawlSummary" "sites" "I" (.int sites_a2)) :
    MetFree l (⟨"com/example/sonar_sweep/sonarsweep/crawl/CrawlSummary", "plus", "(Lcom/example/sonar_sweep/sonarsweep/crawl/CrawlSummary;)Lcom/example/sonar_sweep/sonarsweep/crawl/CrawlSummary;"⟩ : MethodName) (head1 (Jvm.Cond.code (⟨"com/example/sonar_sweep/sonarsweep/crawl/CrawlSummary", "plus", "(Lcom/example/sonar_sweep/sonarsweep/crawl/CrawlSummary;)Lcom/example/sonar_sweep/sonarsweep/crawl/CrawlSummary;"⟩ : MethodName) prog_3_method_6_code 2 (some (.object "com/example/sonar_sweep/sonarsweep/crawl/CrawlSummary")) :: ws) ({ frames := 2, cells := 1, slots := 4, locals := 29 } : Room)) (fun a U => a = #[(.ref a1), (.ref a2)] ∧ Z.Warmed39 U.vm ∧ U.heap = h0) (fun _ _ _ _ _ => True) (fun _ U o U' => ∃ v L, o = .returned v ∧ Qrm3 Z a1 a2 pages_a1 forms_a1 searchable_a1 sites_a1 pages_a2 forms_a2 searchable_a2 sites_a2 h0 n0 v U'.heap L ∧ FrameEnd U o U' L ({ frames := 2, cells := 1, slots := 4, locals := 29 } : Room).cells ({ frames := 2, cells := 1, slots := 4, locals := 29 } : Room).slots) := by
  refine MetFree.of_bodySF (plainFor_of_name pn_com_example_sonar_sweep_sonarsweep_crawl_CrawlSummary) hisR ?_
  intro p e s m args below meth c s₁ Bd hml0 hP hK
  obtain ⟨rfl, hZ, hh⟩ := hP
  have hx := Bd.exec
  have hby := Bd.bytes
  have hml : c.maxLocals = 2 := hml0
  have hown : s.vm.findClass "com/example/sonar_sweep/sonarsweep/crawl/CrawlSummary" = some m.cls := findClass_of_methodNamed Bd.named
  have hnm := (name_of_methodNamed Bd.named Bd.method).1
  have X0 : Stand p l e ({ frames := 2, cells := 1, slots := 4, locals := 29 } : Room) s m #[(.ref a1), (.ref a2)] below meth c s₁ [] 0 0 := Stand.of_body Bd
  have e0 : s₁.heap = h0 := by rw [← hh, Bd.state]; rfl
  have N0 := Fr.nil n0
  have pre0 : ∀ t, Steps p.tables e below (s₁.setTop (mkF m 0 #[.val (.ref a1), .val (.ref a2)] [])) t → Steps p.tables e below (s₁.setTop (entryFrame m #[(.ref a1), (.ref a2)] 2)) t := fun t k => castTop (ef_rm3 m a1 a2) k
  obtain ⟨T1, h1, X1, e1, E1, A1, D1, -, st1⟩ := newO X0 hx hZ hown (hw _ (List.mem_of_getElem? (i := 22) rfl)) (hw _ (List.mem_of_getElem? (i := 1) rfl)) (hw _ (List.mem_of_getElem? (i := 2) rfl)) e0 (g := (mkF m 0 #[.val (.ref a1), .val (.ref a2)] [])) rfl (hb hby d3_0) (by decide) (by decide)
  obtain ⟨b1, g1⟩ : ∃ z, z = h0.size := ⟨_, rfl⟩
  rw [← g1] at A1 D1 st1
  have ne_a1_b1 : a1 ≠ b1 := Nat.ne_of_lt (Nat.lt_of_lt_of_le F_pages_a1.lt (Nat.le_of_eq g1.symm))
  have ne_a2_b1 : a2 ≠ b1 := Nat.ne_of_lt (Nat.lt_of_lt_of_le F_pages_a2.lt (Nat.le_of_eq g1.symm))
  have g_b1 : n0 ≤ b1 := Nat.le_trans Z0 (Nat.le_of_eq g1.symm)
  have sz_b1 : h0.size ≤ b1 := Nat.le_trans (Keep.refl h0 []).1 (Nat.le_of_eq g1.symm)
  have Z2 : n0 ≤ h1.size := Nat.le_trans Z0 E1.1
  have F_pages_b1 : Fld Z h1 b1 "com/example/sonar_sweep/sonarsweep/crawl/CrawlSummary" "pages" "I" (.int (0 : Int32)) := D1 (Or.inr (hw _ (List.mem_of_getElem? (i := 10) rfl))) (ty := .int) (by decide)
  have F_forms_b1 : Fld Z h1 b1 "com/example/sonar_sweep/sonarsweep/crawl/CrawlSummary" "forms" "I" (.int (0 : Int32)) := D1 (Or.inr (hw _ (List.mem_of_getElem? (i := 12) rfl))) (ty := .int) (by decide)
  have F_searchable_b1 : Fld Z h1 b1 "com/example/sonar_sweep/sonarsweep/crawl/CrawlSummary" "searchable" "I" (.int (0 : Int32)) := D1 (Or.inr (hw _ (List.mem_of_getElem? (i := 14) rfl))) (ty := .int) (by decide)
  have F_sites_b1 : Fld Z h1 b1 "com/example/sonar_sweep/sonarsweep/crawl/CrawlSummary" "sites" "I" (.int (0 : Int32)) := D1 (Or.inr (hw _ (List.mem_of_getElem? (i := 16) rfl))) (ty := .int) (by decide)
  have f3 := F_pages_a1.ext E1
  obtain ⟨T4, X4, e4, st4⟩ := getF X1 hx hZ hown (host := "") (Or.inl (hw _ (List.mem_of_getElem? (i := 9) rfl))) Via.refl e1 f3 (g := (mkF m 5 #[.val (.ref a1), .val (.ref a2)] [(.ref a1), (.ref b1), (.ref b1)])) rfl rfl (hb hby d3_5)
  have f5 := F_pages_a2.ext E1
  obtain ⟨T6, X6, e6, st6⟩ := getF X4 hx hZ hown (host := "") (Or.inl (hw _ (List.mem_of_getElem? (i := 9) rfl))) Via.refl e4 f5 (g := (mkF m 9 #[.val (.ref a1), .val (.ref a2)] [(.ref a2), (.int pages_a1), (.ref b1), (.ref b1)])) rfl rfl (hb hby d3_9)
  have f7 := F_forms_a1.ext E1
  obtain ⟨T8, X8, e8, st8⟩ := getF X6 hx hZ hown (host := "") (Or.inl (hw _ (List.mem_of_getElem? (i := 11) rfl))) Via.refl e6 f7 (g := (mkF m 14 #[.val (.ref a1), .val (.ref a2)] [(.ref a1), (.int (pages_a1 + pages_a2)), (.ref b1), (.ref b1)])) rfl rfl (hb hby d3_14)
  have f9 := F_forms_a2.ext E1
  obtain ⟨T10, X10, e10, st10⟩ := getF X8 hx hZ hown (host := "") (Or.inl (hw _ (List.mem_of_getElem? (i := 11) rfl))) Via.refl e8 f9 (g := (mkF m 18 #[.val (.ref a1), .val (.ref a2)] [(.ref a2), (.int forms_a1), (.int (pages_a1 + pages_a2)), (.ref b1), (.ref b1)])) rfl rfl (hb hby d3_18)
  have f11 := F_searchable_a1.ext E1
  obtain ⟨T12, X12, e12, st12⟩ := getF X10 hx hZ hown (host := "") (Or.inl (hw _ (List.mem_of_getElem? (i := 13) rfl))) Via.refl e10 f11 (g := (mkF m 23 #[.val (.ref a1), .val (.ref a2)] [(.ref a1), (.int (forms_a1 + forms_a2)), (.int (pages_a1 + pages_a2)), (.ref b1), (.ref b1)])) rfl rfl (hb hby d3_23)
  have f13 := F_searchable_a2.ext E1
  obtain ⟨T14, X14, e14, st14⟩ := getF X12 hx hZ hown (host := "") (Or.inl (hw _ (List.mem_of_getElem? (i := 13) rfl))) Via.refl e12 f13 (g := (mkF m 27 #[.val (.ref a1), .val (.ref a2)] [(.ref a2), (.int searchable_a1), (.int (forms_a1 + forms_a2)), (.int (pages_a1 + pages_a2)), (.ref b1), (.ref b1)])) rfl rfl (hb hby d3_27)
  have f15 := F_sites_a1.ext E1
  obtain ⟨T16, X16, e16, st16⟩ := getF X14 hx hZ hown (host := "") (Or.inl (hw _ (List.mem_of_getElem? (i := 15) rfl))) Via.refl e14 f15 (g := (mkF m 32 #[.val (.ref a1), .val (.ref a2)] [(.ref a1), (.int (searchable_a1 + searchable_a2)), (.int (forms_a1 + forms_a2)), (.int (pages_a1 + pages_a2)), (.ref b1), (.ref b1)])) rfl rfl (hb hby d3_32)
  have f17 := F_sites_a2.ext E1
  obtain ⟨T18, X18, e18, st18⟩ := getF X16 hx hZ hown (host := "") (Or.inl (hw _ (List.mem_of_getElem? (i := 15) rfl))) Via.refl e16 f17 (g := (mkF m 36 #[.val (.ref a1), .val (.ref a2)] [(.ref a2), (.int sites_a1), (.int (searchable_a1 + searchable_a2)), (.int (forms_a1 + forms_a2)), (.int (pages_a1 + pages_a2)), (.ref b1), (.ref b1)])) rfl rfl (hb hby d3_36)
  obtain ⟨_, _, ⟨T19, L19, k19, n19⟩, -, X19, ⟨Lc19, hQ19, l19, y19, z19⟩, st19⟩ := X18.specialBack hx (y := (⟨"com/example/sonar_sweep/sonarsweep/crawl/CrawlSummary", "<init>", "(IIII)V"⟩ : MethodName)) rfl hown (mvT hZ (hw _ (List.mem_of_getElem? (i := 23) rfl))) (mvT hZ (hw _ (List.mem_of_getElem? (i := 4) rfl))) (mvT hZ (hw _ (List.mem_of_getElem? (i := 5) rfl))) (by decide) (backOf (W := 1) (rm1 l Z a0 hw [] b1 (pages_a1 + pages_a2) (forms_a1 + forms_a2) (searchable_a1 + searchable_a2) (sites_a1 + sites_a2)  h1 n0 Z2 A1 g_b1 F_pages_b1 F_forms_b1 F_searchable_b1 F_sites_b1) hZ (hw _ (List.mem_of_getElem? (i := 5) rfl)) (hw _ (List.mem_of_getElem? (i := 2) rfl)) (by decide) (by decide)) (g := (mkF m 40 #[.val (.ref a1), .val (.ref a2)] [(.int (sites_a1 + sites_a2)), (.int (searchable_a1 + searchable_a2)), (.int (forms_a1 + forms_a2)), (.int (pages_a1 + pages_a2)), (.ref b1), (.ref b1)])) rfl (by rw [hml]; rfl) (Steps.refl _) (a := b1) (argsL := [(.int (pages_a1 + pages_a2)), (.int (forms_a1 + forms_a2)), (.int (searchable_a1 + searchable_a2)), (.int (sites_a1 + sites_a2))]) (rest := [(.ref b1)]) (lenOf pd_0 rfl) rfl (by show 2 * 0 + _ ≤ _; exact Nat.le_of_eq rfl) (hb hby d3_40) (fun _ _ => ⟨rfl, e18, (by decide : 1 + 0 ≤ _), (by decide : 4 + 0 ≤ _)⟩)
  dsimp only [Pt.U, Pt.locs, Pt.cells, Pt.slots] at X19 l19 y19 z19 st19 hQ19
  subst l19 y19 z19
  obtain ⟨rfl, N19q, K19, Ec19, F0_19, F1_19, F2_19, F3_19⟩ := hQ19
  have N19 := Fr.app N0 N19q
  have Z20 : n0 ≤ T19.heap.size := Nat.le_trans Z2 K19.1
  obtain ⟨fs, hr, hrun, hended, hW, hsame⟩ := X19.leave (v := some (.ref b1)) (fun h => by rw [Bd.returns] at h; cases h)
  refine ⟨_, _, pre0 _ ?_, hrun, hended, _, _, rfl, ?_, ⟨_, rfl⟩, hW, hsame.mono (by decide) (by decide)⟩
  · show Steps p.tables e below (s₁.setTop (mkF m 0 #[.val (.ref a1), .val (.ref a2)] [])) _
    refine st1 _ ?_
    show Steps p.tables e below (T1.setTop (mkF m 3 #[.val (.ref a1), .val (.ref a2)] [(.ref b1)])) _
    refine XS.dup X1.here hx rfl (hb hby d3_3) rfl rfl ?_
    show Steps p.tables e below (T1.setTop (mkF m 4 #[.val (.ref a1), .val (.ref a2)] [(.ref b1), (.ref b1)])) _
    refine XS.aloadN X1.here hx rfl (hb hby d3_4) rfl rfl ?_
    show Steps p.tables e below (T1.setTop (mkF m 5 #[.val (.ref a1), .val (.ref a2)] [(.ref a1), (.ref b1), (.ref b1)])) _
    refine st4 _ ?_
    show Steps p.tables e below (T4.setTop (mkF m 8 #[.val (.ref a1), .val (.ref a2)] [(.int pages_a1), (.ref b1), (.ref b1)])) _
    refine XS.aloadN X4.here hx rfl (hb hby d3_8) rfl rfl ?_
    show Steps p.tables e below (T4.setTop (mkF m 9 #[.val (.ref a1), .val (.ref a2)] [(.ref a2), (.int pages_a1), (.ref b1), (.ref b1)])) _
    refine st6 _ ?_
    show Steps p.tables e below (T6.setTop (mkF m 12 #[.val (.ref a1), .val (.ref a2)] [(.int pages_a2), (.int pages_a1), (.ref b1), (.ref b1)])) _
    refine XS.iadd X6.here hx rfl (hb hby d3_12) rfl ?_
    show Steps p.tables e below (T6.setTop (mkF m 13 #[.val (.ref a1), .val (.ref a2)] [(.int (pages_a1 + pages_a2)), (.ref b1), (.ref b1)])) _
    refine XS.aloadN X6.here hx rfl (hb hby d3_13) rfl rfl ?_
    show Steps p.tables e below (T6.setTop (mkF m 14 #[.val (.ref a1), .val (.ref a2)] [(.ref a1), (.int (pages_a1 + pages_a2)), (.ref b1), (.ref b1)])) _
    refine st8 _ ?_
    show Steps p.tables e below (T8.setTop (mkF m 17 #[.val (.ref a1), .val (.ref a2)] [(.int forms_a1), (.int (pages_a1 + pages_a2)), (.ref b1), (.ref b1)])) _
    refine XS.aloadN X8.here hx rfl (hb hby d3_17) rfl rfl ?_
    show Steps p.tables e below (T8.setTop (mkF m 18 #[.val (.ref a1), .val (.ref a2)] [(.ref a2), (.int forms_a1), (.int (pages_a1 + pages_a2)), (.ref b1), (.ref b1)])) _
    refine st10 _ ?_
    show Steps p.tables e below (T10.setTop (mkF m 21 #[.val (.ref a1), .val (.ref a2)] [(.int forms_a2), (.int forms_a1), (.int (pages_a1 + pages_a2)), (.ref b1), (.ref b1)])) _
    refine XS.iadd X10.here hx rfl (hb hby d3_21) rfl ?_
    show Steps p.tables e below (T10.setTop (mkF m 22 #[.val (.ref a1), .val (.ref a2)] [(.int (forms_a1 + forms_a2)), (.int (pages_a1 + pages_a2)), (.ref b1), (.ref b1)])) _
    refine XS.aloadN X10.here hx rfl (hb hby d3_22) rfl rfl ?_
    show Steps p.tables e below (T10.setTop (mkF m 23 #[.val (.ref a1), .val (.ref a2)] [(.ref a1), (.int (forms_a1 + forms_a2)), (.int (pages_a1 + pages_a2)), (.ref b1), (.ref b1)])) _
    refine st12 _ ?_
    show Steps p.tables e below (T12.setTop (mkF m 26 #[.val (.ref a1), .val (.ref a2)] [(.int searchable_a1), (.int (forms_a1 + forms_a2)), (.int (pages_a1 + pages_a2)), (.ref b1), (.ref b1)])) _
    refine XS.aloadN X12.here hx rfl (hb hby d3_26) rfl rfl ?_
    show Steps p.tables e below (T12.setTop (mkF m 27 #[.val (.ref a1), .val (.ref a2)] [(.ref a2), (.int searchable_a1), (.int (forms_a1 + forms_a2)), (.int (pages_a1 + pages_a2)), (.ref b1), (.ref b1)])) _
    refine st14 _ ?_
    show Steps p.tables e below (T14.setTop (mkF m 30 #[.val (.ref a1), .val (.ref a2)] [(.int searchable_a2), (.int searchable_a1), (.int (forms_a1 + forms_a2)), (.int (pages_a1 + pages_a2)), (.ref b1), (.ref b1)])) _
    refine XS.iadd X14.here hx rfl (hb hby d3_30) rfl ?_
    show Steps p.tables e below (T14.setTop (mkF m 31 #[.val (.ref a1), .val (.ref a2)] [(.int (searchable_a1 + searchable_a2)), (.int (forms_a1 + forms_a2)), (.int (pages_a1 + pages_a2)), (.ref b1), (.ref b1)])) _
    refine XS.aloadN X14.here hx rfl (hb hby d3_31) rfl rfl ?_
    show Steps p.tables e below (T14.setTop (mkF m 32 #[.val (.ref a1), .val (.ref a2)] [(.ref a1), (.int (searchable_a1 + searchable_a2)), (.int (forms_a1 + forms_a2)), (.int (pages_a1 + pages_a2)), (.ref b1), (.ref b1)])) _
    refine st16 _ ?_
    show Steps p.tables e below (T16.setTop (mkF m 35 #[.val (.ref a1), .val (.ref a2)] [(.int sites_a1), (.int (searchable_a1 + searchable_a2)), (.int (forms_a1 + forms_a2)), (.int (pages_a1 + pages_a2)), (.ref b1), (.ref b1)])) _
    refine XS.aloadN X16.here hx rfl (hb hby d3_35) rfl rfl ?_
    show Steps p.tables e below (T16.setTop (mkF m 36 #[.val (.ref a1), .val (.ref a2)] [(.ref a2), (.int sites_a1), (.int (searchable_a1 + searchable_a2)), (.int (forms_a1 + forms_a2)), (.int (pages_a1 + pages_a2)), (.ref b1), (.ref b1)])) _
    refine st18 _ ?_
    show Steps p.tables e below (T18.setTop (mkF m 39 #[.val (.ref a1), .val (.ref a2)] [(.int sites_a2), (.int sites_a1), (.int (searchable_a1 + searchable_a2)), (.int (forms_a1 + forms_a2)), (.int (pages_a1 + pages_a2)), (.ref b1), (.ref b1)])) _
    refine XS.iadd X18.here hx rfl (hb hby d3_39) rfl ?_
    show Steps p.tables e below (T18.setTop (mkF m 40 #[.val (.ref a1), .val (.ref a2)] [(.int (sites_a1 + sites_a2)), (.int (searchable_a1 + searchable_a2)), (.int (forms_a1 + forms_a2)), (.int (pages_a1 + pages_a2)), (.ref b1), (.ref b1)])) _
    refine st19.trans ?_
    show Steps p.tables e below (T19.setTop (mkF m 43 #[.val (.ref a1), .val (.ref a2)] [(.ref b1)])) _
    jvm_step X19.here [X19.here.top, hx, (hb hby d3_43), X19.method', Bd.returns, Value.isRef, FieldType.isReference]
    first | (intro acts; rw [hr _ acts rfl rfl rfl]) | rw [hr _ _ rfl rfl rfl]
    exact Steps.refl _
  · show Qrm3 Z a1 a2 pages_a1 forms_a1 searchable_a1 sites_a1 pages_a2 forms_a2 searchable_a2 sites_a2 h0 n0 _ T19.heap _
    exact ⟨b1, rfl, N19, (((Keep.refl h0 []).ext E1).trans K19 (allS (Or.inr sz_b1) all0)), g_b1, Ec19, F0_19, F1_19, F2_19, F3_19⟩
theorem d4_0 : decode prog_3_method_2_code 0 = .ok (.aload_n 0, 1) := by decide +kernel
theorem d4_1 : decode prog_3_method_2_code 1 = .ok (.getfield 7, 3) := by decide +kernel
theorem d4_4 : decode prog_3_method_2_code 4 = .ok (.ireturn, 1) := by decide +kernel
theorem ef_rm4 (m : MethodId) (x0 : Addr) : entryFrame m #[(.ref x0)] 1 = mkF m 0 #[.val (.ref x0)] [] := by first | (simp [entryFrame, mkF, argsToLocals, Value.category]; done) | rfl
def Qrm4 (Z : State) (a1 : Addr) (u : Int32) (h0 : Heap) (n0 : Nat) (v : Option Value) (h : Heap) (L : List Loc) : Prop := v = some (.int u) ∧ Fr n0 L ∧ h = h0
set_option maxRecDepth 65536 in
set_option maxHeartbeats 40000000 in
theorem rm4 (l : Launch) (Z : State) (a0 : Array Value) (hw : ∀ d ∈ tables_1, d.before a0 Z = true) (ws : List Jvm.Cond) (a1 : Addr) (u : Int32) (h0 : Heap) (n0 : Nat) (Z0 : n0 ≤ h0.size) (F1 : Fld Z h0 a1 "com/example/sonar_sweep/sonarsweep/crawl/CrawlSummary" "pages" "I" (.int u)) :
    MetFree l (⟨"com/example/sonar_sweep/sonarsweep/crawl/CrawlSummary", "pages", "()I"⟩ : MethodName) (head1 (Jvm.Cond.code (⟨"com/example/sonar_sweep/sonarsweep/crawl/CrawlSummary", "pages", "()I"⟩ : MethodName) prog_3_method_2_code 1 (some .int) :: ws) ({ frames := 0, cells := 0, slots := 0, locals := 0 } : Room)) (fun a U => a = #[(.ref a1)] ∧ Z.Warmed39 U.vm ∧ U.heap = h0) (fun _ _ _ _ _ => True) (fun _ U o U' => ∃ v L, o = .returned v ∧ Qrm4 Z a1 u h0 n0 v U'.heap L ∧ FrameEnd U o U' L ({ frames := 0, cells := 0, slots := 0, locals := 0 } : Room).cells ({ frames := 0, cells := 0, slots := 0, locals := 0 } : Room).slots) := by
  refine MetFree.of_bodySF (plainFor_of_name pn_com_example_sonar_sweep_sonarsweep_crawl_CrawlSummary) hisR ?_
  intro p e s m args below meth c s₁ Bd hml0 hP hK
  obtain ⟨rfl, hZ, hh⟩ := hP
  have hx := Bd.exec
  have hby := Bd.bytes
  have hml : c.maxLocals = 1 := hml0
  have hown : s.vm.findClass "com/example/sonar_sweep/sonarsweep/crawl/CrawlSummary" = some m.cls := findClass_of_methodNamed Bd.named
  have hnm := (name_of_methodNamed Bd.named Bd.method).1
  have X0 : Stand p l e ({ frames := 0, cells := 0, slots := 0, locals := 0 } : Room) s m #[(.ref a1)] below meth c s₁ [] 0 0 := Stand.of_body Bd
  have e0 : s₁.heap = h0 := by rw [← hh, Bd.state]; rfl
  have N0 := Fr.nil n0
  have pre0 : ∀ t, Steps p.tables e below (s₁.setTop (mkF m 0 #[.val (.ref a1)] [])) t → Steps p.tables e below (s₁.setTop (entryFrame m #[(.ref a1)] 1)) t := fun t k => castTop (ef_rm4 m a1) k
  obtain ⟨T1, X1, e1, st1⟩ := getF X0 hx hZ hown (host := "") (Or.inl (hw _ (List.mem_of_getElem? (i := 9) rfl))) Via.refl e0 F1 (g := (mkF m 1 #[.val (.ref a1)] [(.ref a1)])) rfl rfl (hb hby d4_1)
  obtain ⟨fs, hr, hrun, hended, hW, hsame⟩ := X1.leave (v := some (.int u)) (fun h => by rw [Bd.returns] at h; cases h)
  refine ⟨_, _, pre0 _ ?_, hrun, hended, _, _, rfl, ?_, ⟨_, rfl⟩, hW, hsame.mono (by decide) (by decide)⟩
  · show Steps p.tables e below (s₁.setTop (mkF m 0 #[.val (.ref a1)] [])) _
    refine XS.aloadN X0.here hx rfl (hb hby d4_0) rfl rfl ?_
    show Steps p.tables e below (s₁.setTop (mkF m 1 #[.val (.ref a1)] [(.ref a1)])) _
    refine st1 _ ?_
    show Steps p.tables e below (T1.setTop (mkF m 4 #[.val (.ref a1)] [(.int u)])) _
    exact retI X1 hx Bd.returns (hb hby d4_4) hr
  · show Qrm4 Z a1 u h0 n0 _ T1.heap _
    rw [e1]
    exact ⟨rfl, N0, rfl⟩
theorem d5_0 : decode prog_3_method_3_code 0 = .ok (.aload_n 0, 1) := by decide +kernel
theorem d5_1 : decode prog_3_method_3_code 1 = .ok (.getfield 13, 3) := by decide +kernel
theorem d5_4 : decode prog_3_method_3_code 4 = .ok (.ireturn, 1) := by decide +kernel
theorem ef_rm5 (m : MethodId) (x0 : Addr) : entryFrame m #[(.ref x0)] 1 = mkF m 0 #[.val (.ref x0)] [] := by first | (simp [entryFrame, mkF, argsToLocals, Value.category]; done) | rfl
def Qrm5 (Z : State) (a1 : Addr) (u : Int32) (h0 : Heap) (n0 : Nat) (v : Option Value) (h : Heap) (L : List Loc) : Prop := v = some (.int u) ∧ Fr n0 L ∧ h = h0
set_option maxRecDepth 65536 in
set_option maxHeartbeats 40000000 in
theorem rm5 (l : Launch) (Z : State) (a0 : Array Value) (hw : ∀ d ∈ tables_1, d.before a0 Z = true) (ws : List Jvm.Cond) (a1 : Addr) (u : Int32) (h0 : Heap) (n0 : Nat) (Z0 : n0 ≤ h0.size) (F1 : Fld Z h0 a1 "com/example/sonar_sweep/sonarsweep/crawl/CrawlSummary" "forms" "I" (.int u)) :
    MetFree l (⟨"com/example/sonar_sweep/sonarsweep/crawl/CrawlSummary", "forms", "()I"⟩ : MethodName) (head1 (Jvm.Cond.code (⟨"com/example/sonar_sweep/sonarsweep/crawl/CrawlSummary", "forms", "()I"⟩ : MethodName) prog_3_method_3_code 1 (some .int) :: ws) ({ frames := 0, cells := 0, slots := 0, locals := 0 } : Room)) (fun a U => a = #[(.ref a1)] ∧ Z.Warmed39 U.vm ∧ U.heap = h0) (fun _ _ _ _ _ => True) (fun _ U o U' => ∃ v L, o = .returned v ∧ Qrm5 Z a1 u h0 n0 v U'.heap L ∧ FrameEnd U o U' L ({ frames := 0, cells := 0, slots := 0, locals := 0 } : Room).cells ({ frames := 0, cells := 0, slots := 0, locals := 0 } : Room).slots) := by
  refine MetFree.of_bodySF (plainFor_of_name pn_com_example_sonar_sweep_sonarsweep_crawl_CrawlSummary) hisR ?_
  intro p e s m args below meth c s₁ Bd hml0 hP hK
  obtain ⟨rfl, hZ, hh⟩ := hP
  have hx := Bd.exec
  have hby := Bd.bytes
  have hml : c.maxLocals = 1 := hml0
  have hown : s.vm.findClass "com/example/sonar_sweep/sonarsweep/crawl/CrawlSummary" = some m.cls := findClass_of_methodNamed Bd.named
  have hnm := (name_of_methodNamed Bd.named Bd.method).1
  have X0 : Stand p l e ({ frames := 0, cells := 0, slots := 0, locals := 0 } : Room) s m #[(.ref a1)] below meth c s₁ [] 0 0 := Stand.of_body Bd
  have e0 : s₁.heap = h0 := by rw [← hh, Bd.state]; rfl
  have N0 := Fr.nil n0
  have pre0 : ∀ t, Steps p.tables e below (s₁.setTop (mkF m 0 #[.val (.ref a1)] [])) t → Steps p.tables e below (s₁.setTop (entryFrame m #[(.ref a1)] 1)) t := fun t k => castTop (ef_rm5 m a1) k
  obtain ⟨T1, X1, e1, st1⟩ := getF X0 hx hZ hown (host := "") (Or.inl (hw _ (List.mem_of_getElem? (i := 11) rfl))) Via.refl e0 F1 (g := (mkF m 1 #[.val (.ref a1)] [(.ref a1)])) rfl rfl (hb hby d5_1)
  obtain ⟨fs, hr, hrun, hended, hW, hsame⟩ := X1.leave (v := some (.int u)) (fun h => by rw [Bd.returns] at h; cases h)
  refine ⟨_, _, pre0 _ ?_, hrun, hended, _, _, rfl, ?_, ⟨_, rfl⟩, hW, hsame.mono (by decide) (by decide)⟩
  · show Steps p.tables e below (s₁.setTop (mkF m 0 #[.val (.ref a1)] [])) _
    refine XS.aloadN X0.here hx rfl (hb hby d5_0) rfl rfl ?_
    show Steps p.tables e below (s₁.setTop (mkF m 1 #[.val (.ref a1)] [(.ref a1)])) _
    refine st1 _ ?_
    show Steps p.tables e below (T1.setTop (mkF m 4 #[.val (.ref a1)] [(.int u)])) _
    exact retI X1 hx Bd.returns (hb hby d5_4) hr
  · show Qrm5 Z a1 u h0 n0 _ T1.heap _
    rw [e1]
    exact ⟨rfl, N0, rfl⟩
theorem d6_0 : decode prog_3_method_4_code 0 = .ok (.aload_n 0, 1) := by decide +kernel
theorem d6_1 : decode prog_3_method_4_code 1 = .ok (.getfield 16, 3) := by decide +kernel
theorem d6_4 : decode prog_3_method_4_code 4 = .ok (.ireturn, 1) := by decide +kernel
theorem ef_rm6 (m : MethodId) (x0 : Addr) : entryFrame m #[(.ref x0)] 1 = mkF m 0 #[.val (.ref x0)] [] := by first | (simp [entryFrame, mkF, argsToLocals, Value.category]; done) | rfl
def Qrm6 (Z : State) (a1 : Addr) (u : Int32) (h0 : Heap) (n0 : Nat) (v : Option Value) (h : Heap) (L : List Loc) : Prop := v = some (.int u) ∧ Fr n0 L ∧ h = h0
set_option maxRecDepth 65536 in
set_option maxHeartbeats 40000000 in
theorem rm6 (l : Launch) (Z : State) (a0 : Array Value) (hw : ∀ d ∈ tables_1, d.before a0 Z = true) (ws : List Jvm.Cond) (a1 : Addr) (u : Int32) (h0 : Heap) (n0 : Nat) (Z0 : n0 ≤ h0.size) (F1 : Fld Z h0 a1 "com/example/sonar_sweep/sonarsweep/crawl/CrawlSummary" "searchable" "I" (.int u)) :
    MetFree l (⟨"com/example/sonar_sweep/sonarsweep/crawl/CrawlSummary", "searchable", "()I"⟩ : MethodName) (head1 (Jvm.Cond.code (⟨"com/example/sonar_sweep/sonarsweep/crawl/CrawlSummary", "searchable", "()I"⟩ : MethodName) prog_3_method_4_code 1 (some .int) :: ws) ({ frames := 0, cells := 0, slots := 0, locals := 0 } : Room)) (fun a U => a = #[(.ref a1)] ∧ Z.Warmed39 U.vm ∧ U.heap = h0) (fun _ _ _ _ _ => True) (fun _ U o U' => ∃ v L, o = .returned v ∧ Qrm6 Z a1 u h0 n0 v U'.heap L ∧ FrameEnd U o U' L ({ frames := 0, cells := 0, slots := 0, locals := 0 } : Room).cells ({ frames := 0, cells := 0, slots := 0, locals := 0 } : Room).slots) := by
  refine MetFree.of_bodySF (plainFor_of_name pn_com_example_sonar_sweep_sonarsweep_crawl_CrawlSummary) hisR ?_
  intro p e s m args below meth c s₁ Bd hml0 hP hK
  obtain ⟨rfl, hZ, hh⟩ := hP
  have hx := Bd.exec
  have hby := Bd.bytes
  have hml : c.maxLocals = 1 := hml0
  have hown : s.vm.findClass "com/example/sonar_sweep/sonarsweep/crawl/CrawlSummary" = some m.cls := findClass_of_methodNamed Bd.named
  have hnm := (name_of_methodNamed Bd.named Bd.method).1
  have X0 : Stand p l e ({ frames := 0, cells := 0, slots := 0, locals := 0 } : Room) s m #[(.ref a1)] below meth c s₁ [] 0 0 := Stand.of_body Bd
  have e0 : s₁.heap = h0 := by rw [← hh, Bd.state]; rfl
  have N0 := Fr.nil n0
  have pre0 : ∀ t, Steps p.tables e below (s₁.setTop (mkF m 0 #[.val (.ref a1)] [])) t → Steps p.tables e below (s₁.setTop (entryFrame m #[(.ref a1)] 1)) t := fun t k => castTop (ef_rm6 m a1) k
  obtain ⟨T1, X1, e1, st1⟩ := getF X0 hx hZ hown (host := "") (Or.inl (hw _ (List.mem_of_getElem? (i := 13) rfl))) Via.refl e0 F1 (g := (mkF m 1 #[.val (.ref a1)] [(.ref a1)])) rfl rfl (hb hby d6_1)
  obtain ⟨fs, hr, hrun, hended, hW, hsame⟩ := X1.leave (v := some (.int u)) (fun h => by rw [Bd.returns] at h; cases h)
  refine ⟨_, _, pre0 _ ?_, hrun, hended, _, _, rfl, ?_, ⟨_, rfl⟩, hW, hsame.mono (by decide) (by decide)⟩
  · show Steps p.tables e below (s₁.setTop (mkF m 0 #[.val (.ref a1)] [])) _
    refine XS.aloadN X0.here hx rfl (hb hby d6_0) rfl rfl ?_
    show Steps p.tables e below (s₁.setTop (mkF m 1 #[.val (.ref a1)] [(.ref a1)])) _
    refine st1 _ ?_
    show Steps p.tables e below (T1.setTop (mkF m 4 #[.val (.ref a1)] [(.int u)])) _
    exact retI X1 hx Bd.returns (hb hby d6_4) hr
  · show Qrm6 Z a1 u h0 n0 _ T1.heap _
    rw [e1]
    exact ⟨rfl, N0, rfl⟩
theorem d7_0 : decode prog_3_method_5_code 0 = .ok (.aload_n 0, 1) := by decide +kernel
theorem d7_1 : decode prog_3_method_5_code 1 = .ok (.getfield 19, 3) := by decide +kernel
theorem d7_4 : decode prog_3_method_5_code 4 = .ok (.ireturn, 1) := by decide +kernel
theorem ef_rm7 (m : MethodId) (x0 : Addr) : entryFrame m #[(.ref x0)] 1 = mkF m 0 #[.val (.ref x0)] [] := by first | (simp [entryFrame, mkF, argsToLocals, Value.category]; done) | rfl
def Qrm7 (Z : State) (a1 : Addr) (u : Int32) (h0 : Heap) (n0 : Nat) (v : Option Value) (h : Heap) (L : List Loc) : Prop := v = some (.int u) ∧ Fr n0 L ∧ h = h0
set_option maxRecDepth 65536 in
set_option maxHeartbeats 40000000 in
theorem rm7 (l : Launch) (Z : State) (a0 : Array Value) (hw : ∀ d ∈ tables_1, d.before a0 Z = true) (ws : List Jvm.Cond) (a1 : Addr) (u : Int32) (h0 : Heap) (n0 : Nat) (Z0 : n0 ≤ h0.size) (F1 : Fld Z h0 a1 "com/example/sonar_sweep/sonarsweep/crawl/CrawlSummary" "sites" "I" (.int u)) :
    MetFree l (⟨"com/example/sonar_sweep/sonarsweep/crawl/CrawlSummary", "sites", "()I"⟩ : MethodName) (head1 (Jvm.Cond.code (⟨"com/example/sonar_sweep/sonarsweep/crawl/CrawlSummary", "sites", "()I"⟩ : MethodName) prog_3_method_5_code 1 (some .int) :: ws) ({ frames := 0, cells := 0, slots := 0, locals := 0 } : Room)) (fun a U => a = #[(.ref a1)] ∧ Z.Warmed39 U.vm ∧ U.heap = h0) (fun _ _ _ _ _ => True) (fun _ U o U' => ∃ v L, o = .returned v ∧ Qrm7 Z a1 u h0 n0 v U'.heap L ∧ FrameEnd U o U' L ({ frames := 0, cells := 0, slots := 0, locals := 0 } : Room).cells ({ frames := 0, cells := 0, slots := 0, locals := 0 } : Room).slots) := by
  refine MetFree.of_bodySF (plainFor_of_name pn_com_example_sonar_sweep_sonarsweep_crawl_CrawlSummary) hisR ?_
  intro p e s m args below meth c s₁ Bd hml0 hP hK
  obtain ⟨rfl, hZ, hh⟩ := hP
  have hx := Bd.exec
  have hby := Bd.bytes
  have hml : c.maxLocals = 1 := hml0
  have hown : s.vm.findClass "com/example/sonar_sweep/sonarsweep/crawl/CrawlSummary" = some m.cls := findClass_of_methodNamed Bd.named
  have hnm := (name_of_methodNamed Bd.named Bd.method).1
  have X0 : Stand p l e ({ frames := 0, cells := 0, slots := 0, locals := 0 } : Room) s m #[(.ref a1)] below meth c s₁ [] 0 0 := Stand.of_body Bd
  have e0 : s₁.heap = h0 := by rw [← hh, Bd.state]; rfl
  have N0 := Fr.nil n0
  have pre0 : ∀ t, Steps p.tables e below (s₁.setTop (mkF m 0 #[.val (.ref a1)] [])) t → Steps p.tables e below (s₁.setTop (entryFrame m #[(.ref a1)] 1)) t := fun t k => castTop (ef_rm7 m a1) k
  obtain ⟨T1, X1, e1, st1⟩ := getF X0 hx hZ hown (host := "") (Or.inl (hw _ (List.mem_of_getElem? (i := 15) rfl))) Via.refl e0 F1 (g := (mkF m 1 #[.val (.ref a1)] [(.ref a1)])) rfl rfl (hb hby d7_1)
  obtain ⟨fs, hr, hrun, hended, hW, hsame⟩ := X1.leave (v := some (.int u)) (fun h => by rw [Bd.returns] at h; cases h)
  refine ⟨_, _, pre0 _ ?_, hrun, hended, _, _, rfl, ?_, ⟨_, rfl⟩, hW, hsame.mono (by decide) (by decide)⟩
  · show Steps p.tables e below (s₁.setTop (mkF m 0 #[.val (.ref a1)] [])) _
    refine XS.aloadN X0.here hx rfl (hb hby d7_0) rfl rfl ?_
    show Steps p.tables e below (s₁.setTop (mkF m 1 #[.val (.ref a1)] [(.ref a1)])) _
    refine st1 _ ?_
    show Steps p.tables e below (T1.setTop (mkF m 4 #[.val (.ref a1)] [(.int u)])) _
    exact retI X1 hx Bd.returns (hb hby d7_4) hr
  · show Qrm7 Z a1 u h0 n0 _ T1.heap _
    rw [e1]
    exact ⟨rfl, N0, rfl⟩
theorem pd_1 : parseMethodDescriptor "(Lcom/example/sonar_sweep/sonarsweep/crawl/CrawlSummary;)Lcom/example/sonar_sweep/sonarsweep/crawl/CrawlSummary;" = some ⟨[(.object "com/example/sonar_sweep/sonarsweep/crawl/CrawlSummary")], some (.object "com/example/sonar_sweep/sonarsweep/crawl/CrawlSummary")⟩ := by decide +kernel
theorem pd_2 : parseMethodDescriptor "()I" = some ⟨[], some .int⟩ := by decide +kernel
theorem pn_com_example_sonar_sweep_sonarsweep_crawl_CrawlSummaryPlusPinLaw : plainName "com/example/sonar_sweep/sonarsweep/crawl/CrawlSummaryPlusPinLaw" = true := by first | (simp [plainName, overriddenIn]; done) | decide +kernel
theorem ef_rm0 (m : MethodId) (x0 : Int64) (x1 : Int64) (x2 : Int64) (x3 : Int64) : entryFrame m #[(.long x0), (.long x1), (.long x2), (.long x3)] maxLocals = mkF m 0 #[.val (.long x0), .second, .val (.long x1), .second, .val (.long x2), .second, .val (.long x3), .second, .unset, .unset, .unset, .unset, .unset, .unset, .unset, .unset, .unset, .unset, .unset] [] := by first | (simp [entryFrame, mkF, argsToLocals, Value.category, maxLocals]; done) | rfl
def Qrm0 (Z : State) (q1 : Int64) (q2 : Int64) (q3 : Int64) (q4 : Int64)  (h0 : Heap) (n0 : Nat) (v : Option Value) (h : Heap) (L : List Loc) : Prop := v = some (.int (1 : Int32)) ∧ Fr n0 L
set_option maxRecDepth 65536 in
set_option maxHeartbeats 40000000 in
theorem rm0 (l : Launch) (Z : State) (a0 : Array Value) (hw : ∀ d ∈ tables_1, d.before a0 Z = true) (ws : List Jvm.Cond) (q1 : Int64) (q2 : Int64) (q3 : Int64) (q4 : Int64)  (h0 : Heap) (n0 : Nat) (Z0 : n0 ≤ h0.size)  :
    MetFree l x (head1 (Jvm.Cond.code x code maxLocals ret :: ws) room_1) (fun a U => a = #[(.long q1), (.long q2), (.long q3), (.long q4)] ∧ Z.Warmed39 U.vm ∧ U.heap = h0) (fun _ _ _ _ _ => True) (fun _ U o U' => ∃ v L, o = .returned v ∧ Qrm0 Z q1 q2 q3 q4  h0 n0 v U'.heap L ∧ FrameEnd U o U' L room_1.cells room_1.slots) := by
  refine MetFree.of_bodySF (plainFor_of_name pn_com_example_sonar_sweep_sonarsweep_crawl_CrawlSummaryPlusPinLaw) hisR ?_
  intro p e s m args below meth c s₁ Bd hml0 hP hK
  obtain ⟨rfl, hZ, hh⟩ := hP
  have hx := Bd.exec
  have hby := Bd.bytes
  have hml : c.maxLocals = 19 := hml0
  have hown : s.vm.findClass "com/example/sonar_sweep/sonarsweep/crawl/CrawlSummaryPlusPinLaw" = some m.cls := findClass_of_methodNamed Bd.named
  have hnm := (name_of_methodNamed Bd.named Bd.method).1
  have X0 : Stand p l e room_1 s m #[(.long q1), (.long q2), (.long q3), (.long q4)] below meth c s₁ [] 0 0 := Stand.of_body Bd
  have e0 : s₁.heap = h0 := by rw [← hh, Bd.state]; rfl
  have N0 := Fr.nil n0
  have pre0 : ∀ t, Steps p.tables e below (s₁.setTop (mkF m 0 #[.val (.long q1), .second, .val (.long q2), .second, .val (.long q3), .second, .val (.long q4), .second, .unset, .unset, .unset, .unset, .unset, .unset, .unset, .unset, .unset, .unset, .unset] [])) t → Steps p.tables e below (s₁.setTop (entryFrame m #[(.long q1), (.long q2), (.long q3), (.long q4)] maxLocals)) t := fun t k => castTop (ef_rm0 m q1 q2 q3 q4) k
  obtain ⟨T1, h1, X1, e1, E1, A1, D1, -, st1⟩ := newO X0 hx hZ hown (hw _ (List.mem_of_getElem? (i := 0) rfl)) (hw _ (List.mem_of_getElem? (i := 1) rfl)) (hw _ (List.mem_of_getElem? (i := 2) rfl)) e0 (g := (mkF m 48 #[.val (.long q1), .second, .val (.long q2), .second, .val (.long q3), .second, .val (.long q4), .second, .val (.int (q1.toInt32)), .val (.int (own_hi q1)), .val (.int (q2.toInt32)), .val (.int (own_hi q2)), .val (.int (q3.toInt32)), .val (.int (own_hi q3)), .val (.int (q4.toInt32)), .val (.int (own_hi q4)), .unset, .unset, .unset] [])) rfl (hb hby at_48) (by decide) (by decide)
  obtain ⟨b1, g1⟩ : ∃ z, z = h0.size := ⟨_, rfl⟩
  rw [← g1] at A1 D1 st1
  have g_b1 : n0 ≤ b1 := Nat.le_trans Z0 (Nat.le_of_eq g1.symm)
  have sz_b1 : h0.size ≤ b1 := Nat.le_trans (Keep.refl h0 []).1 (Nat.le_of_eq g1.symm)
  have Z2 : n0 ≤ h1.size := Nat.le_trans Z0 E1.1
  have F_pages_b1 : Fld Z h1 b1 "com/example/sonar_sweep/sonarsweep/crawl/CrawlSummary" "pages" "I" (.int (0 : Int32)) := D1 (Or.inr (hw _ (List.mem_of_getElem? (i := 10) rfl))) (ty := .int) (by decide)
  have F_forms_b1 : Fld Z h1 b1 "com/example/sonar_sweep/sonarsweep/crawl/CrawlSummary" "forms" "I" (.int (0 : Int32)) := D1 (Or.inr (hw _ (List.mem_of_getElem? (i := 12) rfl))) (ty := .int) (by decide)
  have F_searchable_b1 : Fld Z h1 b1 "com/example/sonar_sweep/sonarsweep/crawl/CrawlSummary" "searchable" "I" (.int (0 : Int32)) := D1 (Or.inr (hw _ (List.mem_of_getElem? (i := 14) rfl))) (ty := .int) (by decide)
  have F_sites_b1 : Fld Z h1 b1 "com/example/sonar_sweep/sonarsweep/crawl/CrawlSummary" "sites" "I" (.int (0 : Int32)) := D1 (Or.inr (hw _ (List.mem_of_getElem? (i := 16) rfl))) (ty := .int) (by decide)
  obtain ⟨_, _, ⟨T3, L3, k3, n3⟩, -, X3, ⟨Lc3, hQ3, l3, y3, z3⟩, st3⟩ := X1.specialBack hx (y := (⟨"com/example/sonar_sweep/sonarsweep/crawl/CrawlSummary", "<init>", "(IIII)V"⟩ : MethodName)) rfl hown (mvT hZ (hw _ (List.mem_of_getElem? (i := 3) rfl))) (mvT hZ (hw _ (List.mem_of_getElem? (i := 4) rfl))) (mvT hZ (hw _ (List.mem_of_getElem? (i := 5) rfl))) (by decide) (backOf (W := 1) (rm1 l Z a0 hw [] b1 (q1.toInt32) (q2.toInt32) (q3.toInt32) (q4.toInt32)  h1 n0 Z2 A1 g_b1 F_pages_b1 F_forms_b1 F_searchable_b1 F_sites_b1) hZ (hw _ (List.mem_of_getElem? (i := 5) rfl)) (hw _ (List.mem_of_getElem? (i := 2) rfl)) (by decide) (by decide)) (g := (mkF m 60 #[.val (.long q1), .second, .val (.long q2), .second, .val (.long q3), .second, .val (.long q4), .second, .val (.int (q1.toInt32)), .val (.int (own_hi q1)), .val (.int (q2.toInt32)), .val (.int (own_hi q2)), .val (.int (q3.toInt32)), .val (.int (own_hi q3)), .val (.int (q4.toInt32)), .val (.int (own_hi q4)), .unset, .unset, .unset] [(.int (q4.toInt32)), (.int (q3.toInt32)), (.int (q2.toInt32)), (.int (q1.toInt32)), (.ref b1), (.ref b1)])) rfl (by rw [hml]; rfl) (Steps.refl _) (a := b1) (argsL := [(.int (q1.toInt32)), (.int (q2.toInt32)), (.int (q3.toInt32)), (.int (q4.toInt32))]) (rest := [(.ref b1)]) (lenOf pd_0 rfl) rfl (by show 2 * 0 + _ ≤ _; exact Nat.le_of_eq rfl) (hb hby at_60) (fun _ _ => ⟨rfl, e1, (by decide : 1 + 0 ≤ _), (by decide : 4 + 0 ≤ _)⟩)
  dsimp only [Pt.U, Pt.locs, Pt.cells, Pt.slots] at X3 l3 y3 z3 st3 hQ3
  subst l3 y3 z3
  obtain ⟨rfl, N3q, K3, Ec3, F0_3, F1_3, F2_3, F3_3⟩ := hQ3
  have N3 := Fr.app N0 N3q
  have Z4 : n0 ≤ T3.heap.size := Nat.le_trans Z2 K3.1
  obtain ⟨T5, h5, X5, e5, E5, A5, D5, -, st5⟩ := newO X3 hx hZ hown (hw _ (List.mem_of_getElem? (i := 0) rfl)) (hw _ (List.mem_of_getElem? (i := 1) rfl)) (hw _ (List.mem_of_getElem? (i := 2) rfl)) rfl (g := (mkF m 65 #[.val (.long q1), .second, .val (.long q2), .second, .val (.long q3), .second, .val (.long q4), .second, .val (.int (q1.toInt32)), .val (.int (own_hi q1)), .val (.int (q2.toInt32)), .val (.int (own_hi q2)), .val (.int (q3.toInt32)), .val (.int (own_hi q3)), .val (.int (q4.toInt32)), .val (.int (own_hi q4)), .val (.ref b1), .unset, .unset] [])) rfl (hb hby at_65) (by decide) (by decide)
  obtain ⟨b5, g5⟩ : ∃ z, z = T3.heap.size := ⟨_, rfl⟩
  rw [← g5] at A5 D5 st5
  have ne_b1_b5 : b1 ≠ b5 := Nat.ne_of_lt (Nat.lt_of_lt_of_le Ec3.lt (Nat.le_of_eq g5.symm))
  have g_b5 : n0 ≤ b5 := Nat.le_trans Z4 (Nat.le_of_eq g5.symm)
  have sz_b5 : h0.size ≤ b5 := Nat.le_trans (((Keep.refl h0 []).ext E1).trans K3 (allS (Or.inr sz_b1) all0)).1 (Nat.le_of_eq g5.symm)
  have Z6 : n0 ≤ h5.size := Nat.le_trans Z4 E5.1
  have F_pages_b5 : Fld Z h5 b5 "com/example/sonar_sweep/sonarsweep/crawl/CrawlSummary" "pages" "I" (.int (0 : Int32)) := D5 (Or.inr (hw _ (List.mem_of_getElem? (i := 10) rfl))) (ty := .int) (by decide)
  have F_forms_b5 : Fld Z h5 b5 "com/example/sonar_sweep/sonarsweep/crawl/CrawlSummary" "forms" "I" (.int (0 : Int32)) := D5 (Or.inr (hw _ (List.mem_of_getElem? (i := 12) rfl))) (ty := .int) (by decide)
  have F_searchable_b5 : Fld Z h5 b5 "com/example/sonar_sweep/sonarsweep/crawl/CrawlSummary" "searchable" "I" (.int (0 : Int32)) := D5 (Or.inr (hw _ (List.mem_of_getElem? (i := 14) rfl))) (ty := .int) (by decide)
  have F_sites_b5 : Fld Z h5 b5 "com/example/sonar_sweep/sonarsweep/crawl/CrawlSummary" "sites" "I" (.int (0 : Int32)) := D5 (Or.inr (hw _ (List.mem_of_getElem? (i := 16) rfl))) (ty := .int) (by decide)
  obtain ⟨_, _, ⟨T7, L7, k7, n7⟩, -, X7, ⟨Lc7, hQ7, l7, y7, z7⟩, st7⟩ := X5.specialBack hx (y := (⟨"com/example/sonar_sweep/sonarsweep/crawl/CrawlSummary", "<init>", "(IIII)V"⟩ : MethodName)) rfl hown (mvT hZ (hw _ (List.mem_of_getElem? (i := 3) rfl))) (mvT hZ (hw _ (List.mem_of_getElem? (i := 4) rfl))) (mvT hZ (hw _ (List.mem_of_getElem? (i := 5) rfl))) (by decide) (backOf (W := 1) (rm1 l Z a0 hw [] b5 (own_hi q1) (own_hi q2) (own_hi q3) (own_hi q4)  h5 n0 Z6 A5 g_b5 F_pages_b5 F_forms_b5 F_searchable_b5 F_sites_b5) hZ (hw _ (List.mem_of_getElem? (i := 5) rfl)) (hw _ (List.mem_of_getElem? (i := 2) rfl)) (by decide) (by decide)) (g := (mkF m 77 #[.val (.long q1), .second, .val (.long q2), .second, .val (.long q3), .second, .val (.long q4), .second, .val (.int (q1.toInt32)), .val (.int (own_hi q1)), .val (.int (q2.toInt32)), .val (.int (own_hi q2)), .val (.int (q3.toInt32)), .val (.int (own_hi q3)), .val (.int (q4.toInt32)), .val (.int (own_hi q4)), .val (.ref b1), .unset, .unset] [(.int (own_hi q4)), (.int (own_hi q3)), (.int (own_hi q2)), (.int (own_hi q1)), (.ref b5), (.ref b5)])) rfl (by rw [hml]; rfl) (Steps.refl _) (a := b5) (argsL := [(.int (own_hi q1)), (.int (own_hi q2)), (.int (own_hi q3)), (.int (own_hi q4))]) (rest := [(.ref b5)]) (lenOf pd_0 rfl) rfl (by show 2 * 0 + _ ≤ _; exact Nat.le_of_eq rfl) (hb hby at_77) (fun _ _ => ⟨rfl, e5, (by decide : 2 + 0 ≤ _), (by decide : 8 + 0 ≤ _)⟩)
  dsimp only [Pt.U, Pt.locs, Pt.cells, Pt.slots] at X7 l7 y7 z7 st7 hQ7
  subst l7 y7 z7
  obtain ⟨rfl, N7q, K7, Ec7, F0_7, F1_7, F2_7, F3_7⟩ := hQ7
  have N7 := Fr.app N3 N7q
  have Z8 : n0 ≤ T7.heap.size := Nat.le_trans Z6 K7.1
  have f9 := F0_3.ext E5
  have f10 := f9.keep K7 (ninS ne_b1_b5 nin0)
  have f11 := F1_3.ext E5
  have f12 := f11.keep K7 (ninS ne_b1_b5 nin0)
  have f13 := F2_3.ext E5
  have f14 := f13.keep K7 (ninS ne_b1_b5 nin0)
  have f15 := F3_3.ext E5
  have f16 := f15.keep K7 (ninS ne_b1_b5 nin0)
  have f18 := Ec3.ext E5
  have f19 := f18.keep K7
  obtain ⟨cq17, kq17, q17a, q17b, q17c⟩ := isOf hZ rfl f19
  obtain ⟨_, _, ⟨T17, L17, k17, n17⟩, -, X17, ⟨Lc17, hQ17, l17, y17, z17⟩, st17⟩ := X7.virtualBack hx (y := (⟨"com/example/sonar_sweep/sonarsweep/crawl/CrawlSummary", "plus", "(Lcom/example/sonar_sweep/sonarsweep/crawl/CrawlSummary;)Lcom/example/sonar_sweep/sonarsweep/crawl/CrawlSummary;"⟩ : MethodName)) (z := (⟨"com/example/sonar_sweep/sonarsweep/crawl/CrawlSummary", "plus", "(Lcom/example/sonar_sweep/sonarsweep/crawl/CrawlSummary;)Lcom/example/sonar_sweep/sonarsweep/crawl/CrawlSummary;"⟩ : MethodName)) hown (mvT hZ (hw _ (List.mem_of_getElem? (i := 17) rfl))) (mvT hZ (hw _ (List.mem_of_getElem? (i := 18) rfl))) (notFace_of_selects (args := #[]) (mvT hZ (hw _ (List.mem_of_getElem? (i := 20) rfl)))) (mvT hZ (hw _ (List.mem_of_getElem? (i := 20) rfl))) (mvT hZ (hw _ (List.mem_of_getElem? (i := 19) rfl))) (by decide) (backOf (W := 0) (rm3 l Z a0 hw [] b1 b5 (q1.toInt32) (q2.toInt32) (q3.toInt32) (q4.toInt32) (own_hi q1) (own_hi q2) (own_hi q3) (own_hi q4) T7.heap n0 Z8 f10 f12 f14 f16 F0_7 F1_7 F2_7 F3_7) hZ (hw _ (List.mem_of_getElem? (i := 21) rfl)) (hw _ (List.mem_of_getElem? (i := 2) rfl)) (by decide) (by decide)) q17a q17c (g := (mkF m 86 #[.val (.long q1), .second, .val (.long q2), .second, .val (.long q3), .second, .val (.long q4), .second, .val (.int (q1.toInt32)), .val (.int (own_hi q1)), .val (.int (q2.toInt32)), .val (.int (own_hi q2)), .val (.int (q3.toInt32)), .val (.int (own_hi q3)), .val (.int (q4.toInt32)), .val (.int (own_hi q4)), .val (.ref b1), .val (.ref b5), .unset] [(.ref b5), (.ref b1)])) rfl (by rw [hml]; rfl) (Steps.refl _) (argsL := [(.ref b5)]) (rest := []) (lenOf pd_1 rfl) rfl (by show 2 * 0 + _ ≤ _; exact Nat.le_of_eq rfl) (hb hby at_86) (fun _ _ => ⟨rfl, rfl, (by decide : 2 + 1 ≤ _), (by decide : 8 + 4 ≤ _)⟩)
  dsimp only [Pt.U, Pt.locs, Pt.cells, Pt.slots] at X17 l17 y17 z17 st17 hQ17
  subst l17 y17 z17
  obtain ⟨c17, rfl, N17q, K17, gc17, Ec17, F0_17, F1_17, F2_17, F3_17⟩ := hQ17
  have N17 := Fr.app N7 N17q
  have Z20 : n0 ≤ T17.heap.size := Nat.le_trans Z8 K17.1
  obtain ⟨cq21, kq21, q21a, q21b, q21c⟩ := isOf hZ rfl Ec17
  obtain ⟨_, _, ⟨T21, L21, k21, n21⟩, -, X21, ⟨Lc21, hQ21, l21, y21, z21⟩, st21⟩ := X17.virtualBack hx (y := (⟨"com/example/sonar_sweep/sonarsweep/crawl/CrawlSummary", "pages", "()I"⟩ : MethodName)) (z := (⟨"com/example/sonar_sweep/sonarsweep/crawl/CrawlSummary", "pages", "()I"⟩ : MethodName)) hown (mvT hZ (hw _ (List.mem_of_getElem? (i := 24) rfl))) (mvT hZ (hw _ (List.mem_of_getElem? (i := 25) rfl))) (notFace_of_selects (args := #[]) (mvT hZ (hw _ (List.mem_of_getElem? (i := 27) rfl)))) (mvT hZ (hw _ (List.mem_of_getElem? (i := 27) rfl))) (mvT hZ (hw _ (List.mem_of_getElem? (i := 26) rfl))) (by decide) (backOf (W := 0) (rm4 l Z a0 hw [] c17 ((q1.toInt32) + (own_hi q1)) T17.heap n0 Z20 F0_17) hZ (hw _ (List.mem_of_getElem? (i := 28) rfl)) (hw _ (List.mem_of_getElem? (i := 2) rfl)) (by decide) (by decide)) q21a q21c (g := (mkF m 93 #[.val (.long q1), .second, .val (.long q2), .second, .val (.long q3), .second, .val (.long q4), .second, .val (.int (q1.toInt32)), .val (.int (own_hi q1)), .val (.int (q2.toInt32)), .val (.int (own_hi q2)), .val (.int (q3.toInt32)), .val (.int (own_hi q3)), .val (.int (q4.toInt32)), .val (.int (own_hi q4)), .val (.ref b1), .val (.ref b5), .val (.ref c17)] [(.ref c17)])) rfl (by rw [hml]; rfl) (Steps.refl _) (argsL := []) (rest := []) (lenOf pd_2 rfl) rfl (by show 2 * 0 + _ ≤ _; exact Nat.le_of_eq rfl) (hb hby at_93) (fun _ _ => ⟨rfl, rfl, (by decide : 3 + 0 ≤ _), (by decide : 12 + 0 ≤ _)⟩)
  dsimp only [Pt.U, Pt.locs, Pt.cells, Pt.slots] at X21 l21 y21 z21 st21 hQ21
  subst l21 y21 z21
  obtain ⟨rfl, N21q, e21⟩ := hQ21
  have N21 := Fr.app N17 N21q
  obtain ⟨cq22, kq22, q22a, q22b, q22c⟩ := isOf hZ e21 Ec17
  obtain ⟨_, _, ⟨T22, L22, k22, n22⟩, -, X22, ⟨Lc22, hQ22, l22, y22, z22⟩, st22⟩ := X21.virtualBack hx (y := (⟨"com/example/sonar_sweep/sonarsweep/crawl/CrawlSummary", "forms", "()I"⟩ : MethodName)) (z := (⟨"com/example/sonar_sweep/sonarsweep/crawl/CrawlSummary", "forms", "()I"⟩ : MethodName)) hown (mvT hZ (hw _ (List.mem_of_getElem? (i := 29) rfl))) (mvT hZ (hw _ (List.mem_of_getElem? (i := 30) rfl))) (notFace_of_selects (args := #[]) (mvT hZ (hw _ (List.mem_of_getElem? (i := 32) rfl)))) (mvT hZ (hw _ (List.mem_of_getElem? (i := 32) rfl))) (mvT hZ (hw _ (List.mem_of_getElem? (i := 31) rfl))) (by decide) (backOf (W := 0) (rm5 l Z a0 hw [] c17 ((q2.toInt32) + (own_hi q2)) T17.heap n0 Z20 F1_17) hZ (hw _ (List.mem_of_getElem? (i := 33) rfl)) (hw _ (List.mem_of_getElem? (i := 2) rfl)) (by decide) (by decide)) q22a q22c (g := (mkF m 106 #[.val (.long q1), .second, .val (.long q2), .second, .val (.long q3), .second, .val (.long q4), .second, .val (.int (q1.toInt32)), .val (.int (own_hi q1)), .val (.int (q2.toInt32)), .val (.int (own_hi q2)), .val (.int (q3.toInt32)), .val (.int (own_hi q3)), .val (.int (q4.toInt32)), .val (.int (own_hi q4)), .val (.ref b1), .val (.ref b5), .val (.ref c17)] [(.ref c17)])) rfl (by rw [hml]; rfl) (Steps.refl _) (argsL := []) (rest := []) (lenOf pd_2 rfl) rfl (by show 2 * 0 + _ ≤ _; exact Nat.le_of_eq rfl) (hb hby at_106) (fun _ _ => ⟨rfl, e21, (by decide : 3 + 0 ≤ _), (by decide : 12 + 0 ≤ _)⟩)
  dsimp only [Pt.U, Pt.locs, Pt.cells, Pt.slots] at X22 l22 y22 z22 st22 hQ22
  subst l22 y22 z22
  obtain ⟨rfl, N22q, e22⟩ := hQ22
  have N22 := Fr.app N21 N22q
  obtain ⟨cq23, kq23, q23a, q23b, q23c⟩ := isOf hZ e22 Ec17
  obtain ⟨_, _, ⟨T23, L23, k23, n23⟩, -, X23, ⟨Lc23, hQ23, l23, y23, z23⟩, st23⟩ := X22.virtualBack hx (y := (⟨"com/example/sonar_sweep/sonarsweep/crawl/CrawlSummary", "searchable", "()I"⟩ : MethodName)) (z := (⟨"com/example/sonar_sweep/sonarsweep/crawl/CrawlSummary", "searchable", "()I"⟩ : MethodName)) hown (mvT hZ (hw _ (List.mem_of_getElem? (i := 34) rfl))) (mvT hZ (hw _ (List.mem_of_getElem? (i := 35) rfl))) (notFace_of_selects (args := #[]) (mvT hZ (hw _ (List.mem_of_getElem? (i := 37) rfl)))) (mvT hZ (hw _ (List.mem_of_getElem? (i := 37) rfl))) (mvT hZ (hw _ (List.mem_of_getElem? (i := 36) rfl))) (by decide) (backOf (W := 0) (rm6 l Z a0 hw [] c17 ((q3.toInt32) + (own_hi q3)) T17.heap n0 Z20 F2_17) hZ (hw _ (List.mem_of_getElem? (i := 38) rfl)) (hw _ (List.mem_of_getElem? (i := 2) rfl)) (by decide) (by decide)) q23a q23c (g := (mkF m 119 #[.val (.long q1), .second, .val (.long q2), .second, .val (.long q3), .second, .val (.long q4), .second, .val (.int (q1.toInt32)), .val (.int (own_hi q1)), .val (.int (q2.toInt32)), .val (.int (own_hi q2)), .val (.int (q3.toInt32)), .val (.int (own_hi q3)), .val (.int (q4.toInt32)), .val (.int (own_hi q4)), .val (.ref b1), .val (.ref b5), .val (.ref c17)] [(.ref c17)])) rfl (by rw [hml]; rfl) (Steps.refl _) (argsL := []) (rest := []) (lenOf pd_2 rfl) rfl (by show 2 * 0 + _ ≤ _; exact Nat.le_of_eq rfl) (hb hby at_119) (fun _ _ => ⟨rfl, e22, (by decide : 3 + 0 ≤ _), (by decide : 12 + 0 ≤ _)⟩)
  dsimp only [Pt.U, Pt.locs, Pt.cells, Pt.slots] at X23 l23 y23 z23 st23 hQ23
  subst l23 y23 z23
  obtain ⟨rfl, N23q, e23⟩ := hQ23
  have N23 := Fr.app N22 N23q
  obtain ⟨cq24, kq24, q24a, q24b, q24c⟩ := isOf hZ e23 Ec17
  obtain ⟨_, _, ⟨T24, L24, k24, n24⟩, -, X24, ⟨Lc24, hQ24, l24, y24, z24⟩, st24⟩ := X23.virtualBack hx (y := (⟨"com/example/sonar_sweep/sonarsweep/crawl/CrawlSummary", "sites", "()I"⟩ : MethodName)) (z := (⟨"com/example/sonar_sweep/sonarsweep/crawl/CrawlSummary", "sites", "()I"⟩ : MethodName)) hown (mvT hZ (hw _ (List.mem_of_getElem? (i := 39) rfl))) (mvT hZ (hw _ (List.mem_of_getElem? (i := 40) rfl))) (notFace_of_selects (args := #[]) (mvT hZ (hw _ (List.mem_of_getElem? (i := 42) rfl)))) (mvT hZ (hw _ (List.mem_of_getElem? (i := 42) rfl))) (mvT hZ (hw _ (List.mem_of_getElem? (i := 41) rfl))) (by decide) (backOf (W := 0) (rm7 l Z a0 hw [] c17 ((q4.toInt32) + (own_hi q4)) T17.heap n0 Z20 F3_17) hZ (hw _ (List.mem_of_getElem? (i := 43) rfl)) (hw _ (List.mem_of_getElem? (i := 2) rfl)) (by decide) (by decide)) q24a q24c (g := (mkF m 132 #[.val (.long q1), .second, .val (.long q2), .second, .val (.long q3), .second, .val (.long q4), .second, .val (.int (q1.toInt32)), .val (.int (own_hi q1)), .val (.int (q2.toInt32)), .val (.int (own_hi q2)), .val (.int (q3.toInt32)), .val (.int (own_hi q3)), .val (.int (q4.toInt32)), .val (.int (own_hi q4)), .val (.ref b1), .val (.ref b5), .val (.ref c17)] [(.ref c17)])) rfl (by rw [hml]; rfl) (Steps.refl _) (argsL := []) (rest := []) (lenOf pd_2 rfl) rfl (by show 2 * 0 + _ ≤ _; exact Nat.le_of_eq rfl) (hb hby at_132) (fun _ _ => ⟨rfl, e23, (by decide : 3 + 0 ≤ _), (by decide : 12 + 0 ≤ _)⟩)
  dsimp only [Pt.U, Pt.locs, Pt.cells, Pt.slots] at X24 l24 y24 z24 st24 hQ24
  subst l24 y24 z24
  obtain ⟨rfl, N24q, e24⟩ := hQ24
  have N24 := Fr.app N23 N24q
  obtain ⟨fs, hr, hrun, hended, hW, hsame⟩ := X24.leave (v := some (.int (1 : Int32))) (fun h => by rw [Bd.returns] at h; cases h)
  refine ⟨_, _, pre0 _ ?_, hrun, hended, _, _, rfl, ?_, ⟨_, rfl⟩, hW, hsame.mono (by decide) (by decide)⟩
  · show Steps p.tables e below (s₁.setTop (mkF m 0 #[.val (.long q1), .second, .val (.long q2), .second, .val (.long q3), .second, .val (.long q4), .second, .unset, .unset, .unset, .unset, .unset, .unset, .unset, .unset, .unset, .unset, .unset] [])) _
    refine XS.lloadN X0.here hx rfl (hb hby at_0) rfl ?_
    show Steps p.tables e below (s₁.setTop (mkF m 1 #[.val (.long q1), .second, .val (.long q2), .second, .val (.long q3), .second, .val (.long q4), .second, .unset, .unset, .unset, .unset, .unset, .unset, .unset, .unset, .unset, .unset, .unset] [(.long q1)])) _
    refine XS.l2i X0.here hx rfl (hb hby at_1) rfl ?_
    show Steps p.tables e below (s₁.setTop (mkF m 2 #[.val (.long q1), .second, .val (.long q2), .second, .val (.long q3), .second, .val (.long q4), .second, .unset, .unset, .unset, .unset, .unset, .unset, .unset, .unset, .unset, .unset, .unset] [(.int (q1.toInt32))])) _
    refine XS.istore X0.here hx rfl (hb hby at_2) rfl (l' := #[.val (.long q1), .second, .val (.long q2), .second, .val (.long q3), .second, .val (.long q4), .second, .val (.int (q1.toInt32)), .unset, .unset, .unset, .unset, .unset, .unset, .unset, .unset, .unset, .unset]) rfl ?_
    show Steps p.tables e below (s₁.setTop (mkF m 4 #[.val (.long q1), .second, .val (.long q2), .second, .val (.long q3), .second, .val (.long q4), .second, .val (.int (q1.toInt32)), .unset, .unset, .unset, .unset, .unset, .unset, .unset, .unset, .unset, .unset] [])) _
    refine XS.lloadN X0.here hx rfl (hb hby at_4) rfl ?_
    show Steps p.tables e below (s₁.setTop (mkF m 5 #[.val (.long q1), .second, .val (.long q2), .second, .val (.long q3), .second, .val (.long q4), .second, .val (.int (q1.toInt32)), .unset, .unset, .unset, .unset, .unset, .unset, .unset, .unset, .unset, .unset] [(.long q1)])) _
    refine XS.bipush X0.here hx rfl (hb hby at_5) ?_
    show Steps p.tables e below (s₁.setTop (mkF m 7 #[.val (.long q1), .second, .val (.long q2), .second, .val (.long q3), .second, .val (.long q4), .second, .val (.int (q1.toInt32)), .unset, .unset, .unset, .unset, .unset, .unset, .unset, .unset, .unset, .unset] [(.int (32 : Int32)), (.long q1)])) _
    refine XS.lushr X0.here hx rfl (hb hby at_7) rfl ?_
    show Steps p.tables e below (s₁.setTop (mkF m 8 #[.val (.long q1), .second, .val (.long q2), .second, .val (.long q3), .second, .val (.long q4), .second, .val (.int (q1.toInt32)), .unset, .unset, .unset, .unset, .unset, .unset, .unset, .unset, .unset, .unset] [(.long ((q1.toUInt64 >>> ((32 : Int32) &&& 0x3f).toInt64.toUInt64).toInt64))])) _
    refine XS.l2i X0.here hx rfl (hb hby at_8) rfl ?_
    show Steps p.tables e below (s₁.setTop (mkF m 9 #[.val (.long q1), .second, .val (.long q2), .second, .val (.long q3), .second, .val (.long q4), .second, .val (.int (q1.toInt32)), .unset, .unset, .unset, .unset, .unset, .unset, .unset, .unset, .unset, .unset] [(.int (own_hi q1))])) _
    refine XS.istore X0.here hx rfl (hb hby at_9) rfl (l' := #[.val (.long q1), .second, .val (.long q2), .second, .val (.long q3), .second, .val (.long q4), .second, .val (.int (q1.toInt32)), .val (.int (own_hi q1)), .unset, .unset, .unset, .unset, .unset, .unset, .unset, .unset, .unset]) rfl ?_
    show Steps p.tables e below (s₁.setTop (mkF m 11 #[.val (.long q1), .second, .val (.long q2), .second, .val (.long q3), .second, .val (.long q4), .second, .val (.int (q1.toInt32)), .val (.int (own_hi q1)), .unset, .unset, .unset, .unset, .unset, .unset, .unset, .unset, .unset] [])) _
    refine XS.lloadN X0.here hx rfl (hb hby at_11) rfl ?_
    show Steps p.tables e below (s₁.setTop (mkF m 12 #[.val (.long q1), .second, .val (.long q2), .second, .val (.long q3), .second, .val (.long q4), .second, .val (.int (q1.toInt32)), .val (.int (own_hi q1)), .unset, .unset, .unset, .unset, .unset, .unset, .unset, .unset, .unset] [(.long q2)])) _
    refine XS.l2i X0.here hx rfl (hb hby at_12) rfl ?_
    show Steps p.tables e below (s₁.setTop (mkF m 13 #[.val (.long q1), .second, .val (.long q2), .second, .val (.long q3), .second, .val (.long q4), .second, .val (.int (q1.toInt32)), .val (.int (own_hi q1)), .unset, .unset, .unset, .unset, .unset, .unset, .unset, .unset, .unset] [(.int (q2.toInt32))])) _
    refine XS.istore X0.here hx rfl (hb hby at_13) rfl (l' := #[.val (.long q1), .second, .val (.long q2), .second, .val (.long q3), .second, .val (.long q4), .second, .val (.int (q1.toInt32)), .val (.int (own_hi q1)), .val (.int (q2.toInt32)), .unset, .unset, .unset, .unset, .unset, .unset, .unset, .unset]) rfl ?_
    show Steps p.tables e below (s₁.setTop (mkF m 15 #[.val (.long q1), .second, .val (.long q2), .second, .val (.long q3), .second, .val (.long q4), .second, .val (.int (q1.toInt32)), .val (.int (own_hi q1)), .val (.int (q2.toInt32)), .unset, .unset, .unset, .unset, .unset, .unset, .unset, .unset] [])) _
    refine XS.lloadN X0.here hx rfl (hb hby at_15) rfl ?_
    show Steps p.tables e below (s₁.setTop (mkF m 16 #[.val (.long q1), .second, .val (.long q2), .second, .val (.long q3), .second, .val (.long q4), .second, .val (.int (q1.toInt32)), .val (.int (own_hi q1)), .val (.int (q2.toInt32)), .unset, .unset, .unset, .unset, .unset, .unset, .unset, .unset] [(.long q2)])) _
    refine XS.bipush X0.here hx rfl (hb hby at_16) ?_
    show Steps p.tables e below (s₁.setTop (mkF m 18 #[.val (.long q1), .second, .val (.long q2), .second, .val (.long q3), .second, .val (.long q4), .second, .val (.int (q1.toInt32)), .val (.int (own_hi q1)), .val (.int (q2.toInt32)), .unset, .unset, .unset, .unset, .unset, .unset, .unset, .unset] [(.int (32 : Int32)), (.long q2)])) _
    refine XS.lushr X0.here hx rfl (hb hby at_18) rfl ?_
    show Steps p.tables e below (s₁.setTop (mkF m 19 #[.val (.long q1), .second, .val (.long q2), .second, .val (.long q3), .second, .val (.long q4), .second, .val (.int (q1.toInt32)), .val (.int (own_hi q1)), .val (.int (q2.toInt32)), .unset, .unset, .unset, .unset, .unset, .unset, .unset, .unset] [(.long ((q2.toUInt64 >>> ((32 : Int32) &&& 0x3f).toInt64.toUInt64).toInt64))])) _
    refine XS.l2i X0.here hx rfl (hb hby at_19) rfl ?_
    show Steps p.tables e below (s₁.setTop (mkF m 20 #[.val (.long q1), .second, .val (.long q2), .second, .val (.long q3), .second, .val (.long q4), .second, .val (.int (q1.toInt32)), .val (.int (own_hi q1)), .val (.int (q2.toInt32)), .unset, .unset, .unset, .unset, .unset, .unset, .unset, .unset] [(.int (own_hi q2))])) _
    refine XS.istore X0.here hx rfl (hb hby at_20) rfl (l' := #[.val (.long q1), .second, .val (.long q2), .second, .val (.long q3), .second, .val (.long q4), .second, .val (.int (q1.toInt32)), .val (.int (own_hi q1)), .val (.int (q2.toInt32)), .val (.int (own_hi q2)), .unset, .unset, .unset, .unset, .unset, .unset, .unset]) rfl ?_
    show Steps p.tables e below (s₁.setTop (mkF m 22 #[.val (.long q1), .second, .val (.long q2), .second, .val (.long q3), .second, .val (.long q4), .second, .val (.int (q1.toInt32)), .val (.int (own_hi q1)), .val (.int (q2.toInt32)), .val (.int (own_hi q2)), .unset, .unset, .unset, .unset, .unset, .unset, .unset] [])) _
    refine XS.lload X0.here hx rfl (hb hby at_22) rfl ?_
    show Steps p.tables e below (s₁.setTop (mkF m 24 #[.val (.long q1), .second, .val (.long q2), .second, .val (.long q3), .second, .val (.long q4), .second, .val (.int (q1.toInt32)), .val (.int (own_hi q1)), .val (.int (q2.toInt32)), .val (.int (own_hi q2)), .unset, .unset, .unset, .unset, .unset, .unset, .unset] [(.long q3)])) _
    refine XS.l2i X0.here hx rfl (hb hby at_24) rfl ?_
    show Steps p.tables e below (s₁.setTop (mkF m 25 #[.val (.long q1), .second, .val (.long q2), .second, .val (.long q3), .second, .val (.long q4), .second, .val (.int (q1.toInt32)), .val (.int (own_hi q1)), .val (.int (q2.toInt32)), .val (.int (own_hi q2)), .unset, .unset, .unset, .unset, .unset, .unset, .unset] [(.int (q3.toInt32))])) _
    refine XS.istore X0.here hx rfl (hb hby at_25) rfl (l' := #[.val (.long q1), .second, .val (.long q2), .second, .val (.long q3), .second, .val (.long q4), .second, .val (.int (q1.toInt32)), .val (.int (own_hi q1)), .val (.int (q2.toInt32)), .val (.int (own_hi q2)), .val (.int (q3.toInt32)), .unset, .unset, .unset, .unset, .unset, .unset]) rfl ?_
    show Steps p.tables e below (s₁.setTop (mkF m 27 #[.val (.long q1), .second, .val (.long q2), .second, .val (.long q3), .second, .val (.long q4), .second, .val (.int (q1.toInt32)), .val (.int (own_hi q1)), .val (.int (q2.toInt32)), .val (.int (own_hi q2)), .val (.int (q3.toInt32)), .unset, .unset, .unset, .unset, .unset, .unset] [])) _
    refine XS.lload X0.here hx rfl (hb hby at_27) rfl ?_
    show Steps p.tables e below (s₁.setTop (mkF m 29 #[.val (.long q1), .second, .val (.long q2), .second, .val (.long q3), .second, .val (.long q4), .second, .val (.int (q1.toInt32)), .val (.int (own_hi q1)), .val (.int (q2.toInt32)), .val (.int (own_hi q2)), .val (.int (q3.toInt32)), .unset, .unset, .unset, .unset, .unset, .unset] [(.long q3)])) _
    refine XS.bipush X0.here hx rfl (hb hby at_29) ?_
    show Steps p.tables e below (s₁.setTop (mkF m 31 #[.val (.long q1), .second, .val (.long q2), .second, .val (.long q3), .second, .val (.long q4), .second, .val (.int (q1.toInt32)), .val (.int (own_hi q1)), .val (.int (q2.toInt32)), .val (.int (own_hi q2)), .val (.int (q3.toInt32)), .unset, .unset, .unset, .unset, .unset, .unset] [(.int (32 : Int32)), (.long q3)])) _
    refine XS.lushr X0.here hx rfl (hb hby at_31) rfl ?_
    show Steps p.tables e below (s₁.setTop (mkF m 32 #[.val (.long q1), .second, .val (.long q2), .second, .val (.long q3), .second, .val (.long q4), .second, .val (.int (q1.toInt32)), .val (.int (own_hi q1)), .val (.int (q2.toInt32)), .val (.int (own_hi q2)), .val (.int (q3.toInt32)), .unset, .unset, .unset, .unset, .unset, .unset] [(.long ((q3.toUInt64 >>> ((32 : Int32) &&& 0x3f).toInt64.toUInt64).toInt64))])) _
    refine XS.l2i X0.here hx rfl (hb hby at_32) rfl ?_
    show Steps p.tables e below (s₁.setTop (mkF m 33 #[.val (.long q1), .second, .val (.long q2), .second, .val (.long q3), .second, .val (.long q4), .second, .val (.int (q1.toInt32)), .val (.int (own_hi q1)), .val (.int (q2.toInt32)), .val (.int (own_hi q2)), .val (.int (q3.toInt32)), .unset, .unset, .unset, .unset, .unset, .unset] [(.int (own_hi q3))])) _
    refine XS.istore X0.here hx rfl (hb hby at_33) rfl (l' := #[.val (.long q1), .second, .val (.long q2), .second, .val (.long q3), .second, .val (.long q4), .second, .val (.int (q1.toInt32)), .val (.int (own_hi q1)), .val (.int (q2.toInt32)), .val (.int (own_hi q2)), .val (.int (q3.toInt32)), .val (.int (own_hi q3)), .unset, .unset, .unset, .unset, .unset]) rfl ?_
    show Steps p.tables e below (s₁.setTop (mkF m 35 #[.val (.long q1), .second, .val (.long q2), .second, .val (.long q3), .second, .val (.long q4), .second, .val (.int (q1.toInt32)), .val (.int (own_hi q1)), .val (.int (q2.toInt32)), .val (.int (own_hi q2)), .val (.int (q3.toInt32)), .val (.int (own_hi q3)), .unset, .unset, .unset, .unset, .unset] [])) _
    refine XS.lload X0.here hx rfl (hb hby at_35) rfl ?_
    show Steps p.tables e below (s₁.setTop (mkF m 37 #[.val (.long q1), .second, .val (.long q2), .second, .val (.long q3), .second, .val (.long q4), .second, .val (.int (q1.toInt32)), .val (.int (own_hi q1)), .val (.int (q2.toInt32)), .val (.int (own_hi q2)), .val (.int (q3.toInt32)), .val (.int (own_hi q3)), .unset, .unset, .unset, .unset, .unset] [(.long q4)])) _
    refine XS.l2i X0.here hx rfl (hb hby at_37) rfl ?_
    show Steps p.tables e below (s₁.setTop (mkF m 38 #[.val (.long q1), .second, .val (.long q2), .second, .val (.long q3), .second, .val (.long q4), .second, .val (.int (q1.toInt32)), .val (.int (own_hi q1)), .val (.int (q2.toInt32)), .val (.int (own_hi q2)), .val (.int (q3.toInt32)), .val (.int (own_hi q3)), .unset, .unset, .unset, .unset, .unset] [(.int (q4.toInt32))])) _
    refine XS.istore X0.here hx rfl (hb hby at_38) rfl (l' := #[.val (.long q1), .second, .val (.long q2), .second, .val (.long q3), .second, .val (.long q4), .second, .val (.int (q1.toInt32)), .val (.int (own_hi q1)), .val (.int (q2.toInt32)), .val (.int (own_hi q2)), .val (.int (q3.toInt32)), .val (.int (own_hi q3)), .val (.int (q4.toInt32)), .unset, .unset, .unset, .unset]) rfl ?_
    show Steps p.tables e below (s₁.setTop (mkF m 40 #[.val (.long q1), .second, .val (.long q2), .second, .val (.long q3), .second, .val (.long q4), .second, .val (.int (q1.toInt32)), .val (.int (own_hi q1)), .val (.int (q2.toInt32)), .val (.int (own_hi q2)), .val (.int (q3.toInt32)), .val (.int (own_hi q3)), .val (.int (q4.toInt32)), .unset, .unset, .unset, .unset] [])) _
    refine XS.lload X0.here hx rfl (hb hby at_40) rfl ?_
    show Steps p.tables e below (s₁.setTop (mkF m 42 #[.val (.long q1), .second, .val (.long q2), .second, .val (.long q3), .second, .val (.long q4), .second, .val (.int (q1.toInt32)), .val (.int (own_hi q1)), .val (.int (q2.toInt32)), .val (.int (own_hi q2)), .val (.int (q3.toInt32)), .val (.int (own_hi q3)), .val (.int (q4.toInt32)), .unset, .unset, .unset, .unset] [(.long q4)])) _
    refine XS.bipush X0.here hx rfl (hb hby at_42) ?_
    show Steps p.tables e below (s₁.setTop (mkF m 44 #[.val (.long q1), .second, .val (.long q2), .second, .val (.long q3), .second, .val (.long q4), .second, .val (.int (q1.toInt32)), .val (.int (own_hi q1)), .val (.int (q2.toInt32)), .val (.int (own_hi q2)), .val (.int (q3.toInt32)), .val (.int (own_hi q3)), .val (.int (q4.toInt32)), .unset, .unset, .unset, .unset] [(.int (32 : Int32)), (.long q4)])) _
    refine XS.lushr X0.here hx rfl (hb hby at_44) rfl ?_
    show Steps p.tables e below (s₁.setTop (mkF m 45 #[.val (.long q1), .second, .val (.long q2), .second, .val (.long q3), .second, .val (.long q4), .second, .val (.int (q1.toInt32)), .val (.int (own_hi q1)), .val (.int (q2.toInt32)), .val (.int (own_hi q2)), .val (.int (q3.toInt32)), .val (.int (own_hi q3)), .val (.int (q4.toInt32)), .unset, .unset, .unset, .unset] [(.long ((q4.toUInt64 >>> ((32 : Int32) &&& 0x3f).toInt64.toUInt64).toInt64))])) _
    refine XS.l2i X0.here hx rfl (hb hby at_45) rfl ?_
    show Steps p.tables e below (s₁.setTop (mkF m 46 #[.val (.long q1), .second, .val (.long q2), .second, .val (.long q3), .second, .val (.long q4), .second, .val (.int (q1.toInt32)), .val (.int (own_hi q1)), .val (.int (q2.toInt32)), .val (.int (own_hi q2)), .val (.int (q3.toInt32)), .val (.int (own_hi q3)), .val (.int (q4.toInt32)), .unset, .unset, .unset, .unset] [(.int (own_hi q4))])) _
    refine XS.istore X0.here hx rfl (hb hby at_46) rfl (l' := #[.val (.long q1), .second, .val (.long q2), .second, .val (.long q3), .second, .val (.long q4), .second, .val (.int (q1.toInt32)), .val (.int (own_hi q1)), .val (.int (q2.toInt32)), .val (.int (own_hi q2)), .val (.int (q3.toInt32)), .val (.int (own_hi q3)), .val (.int (q4.toInt32)), .val (.int (own_hi q4)), .unset, .unset, .unset]) rfl ?_
    show Steps p.tables e below (s₁.setTop (mkF m 48 #[.val (.long q1), .second, .val (.long q2), .second, .val (.long q3), .second, .val (.long q4), .second, .val (.int (q1.toInt32)), .val (.int (own_hi q1)), .val (.int (q2.toInt32)), .val (.int (own_hi q2)), .val (.int (q3.toInt32)), .val (.int (own_hi q3)), .val (.int (q4.toInt32)), .val (.int (own_hi q4)), .unset, .unset, .unset] [])) _
    refine st1 _ ?_
    show Steps p.tables e below (T1.setTop (mkF m 51 #[.val (.long q1), .second, .val (.long q2), .second, .val (.long q3), .second, .val (.long q4), .second, .val (.int (q1.toInt32)), .val (.int (own_hi q1)), .val (.int (q2.toInt32)), .val (.int (own_hi q2)), .val (.int (q3.toInt32)), .val (.int (own_hi q3)), .val (.int (q4.toInt32)), .val (.int (own_hi q4)), .unset, .unset, .unset] [(.ref b1)])) _
    refine XS.dup X1.here hx rfl (hb hby at_51) rfl rfl ?_
    show Steps p.tables e below (T1.setTop (mkF m 52 #[.val (.long q1), .second, .val (.long q2), .second, .val (.long q3), .second, .val (.long q4), .second, .val (.int (q1.toInt32)), .val (.int (own_hi q1)), .val (.int (q2.toInt32)), .val (.int (own_hi q2)), .val (.int (q3.toInt32)), .val (.int (own_hi q3)), .val (.int (q4.toInt32)), .val (.int (own_hi q4)), .unset, .unset, .unset] [(.ref b1), (.ref b1)])) _
    refine XS.iload X1.here hx rfl (hb hby at_52) rfl ?_
    show Steps p.tables e below (T1.setTop (mkF m 54 #[.val (.long q1), .second, .val (.long q2), .second, .val (.long q3), .second, .val (.long q4), .second, .val (.int (q1.toInt32)), .val (.int (own_hi q1)), .val (.int (q2.toInt32)), .val (.int (own_hi q2)), .val (.int (q3.toInt32)), .val (.int (own_hi q3)), .val (.int (q4.toInt32)), .val (.int (own_hi q4)), .unset, .unset, .unset] [(.int (q1.toInt32)), (.ref b1), (.ref b1)])) _
    refine XS.iload X1.here hx rfl (hb hby at_54) rfl ?_
    show Steps p.tables e below (T1.setTop (mkF m 56 #[.val (.long q1), .second, .val (.long q2), .second, .val (.long q3), .second, .val (.long q4), .second, .val (.int (q1.toInt32)), .val (.int (own_hi q1)), .val (.int (q2.toInt32)), .val (.int (own_hi q2)), .val (.int (q3.toInt32)), .val (.int (own_hi q3)), .val (.int (q4.toInt32)), .val (.int (own_hi q4)), .unset, .unset, .unset] [(.int (q2.toInt32)), (.int (q1.toInt32)), (.ref b1), (.ref b1)])) _
    refine XS.iload X1.here hx rfl (hb hby at_56) rfl ?_
    show Steps p.tables e below (T1.setTop (mkF m 58 #[.val (.long q1), .second, .val (.long q2), .second, .val (.long q3), .second, .val (.long q4), .second, .val (.int (q1.toInt32)), .val (.int (own_hi q1)), .val (.int (q2.toInt32)), .val (.int (own_hi q2)), .val (.int (q3.toInt32)), .val (.int (own_hi q3)), .val (.int (q4.toInt32)), .val (.int (own_hi q4)), .unset, .unset, .unset] [(.int (q3.toInt32)), (.int (q2.toInt32)), (.int (q1.toInt32)), (.ref b1), (.ref b1)])) _
    refine XS.iload X1.here hx rfl (hb hby at_58) rfl ?_
    show Steps p.tables e below (T1.setTop (mkF m 60 #[.val (.long q1), .second, .val (.long q2), .second, .val (.long q3), .second, .val (.long q4), .second, .val (.int (q1.toInt32)), .val (.int (own_hi q1)), .val (.int (q2.toInt32)), .val (.int (own_hi q2)), .val (.int (q3.toInt32)), .val (.int (own_hi q3)), .val (.int (q4.toInt32)), .val (.int (own_hi q4)), .unset, .unset, .unset] [(.int (q4.toInt32)), (.int (q3.toInt32)), (.int (q2.toInt32)), (.int (q1.toInt32)), (.ref b1), (.ref b1)])) _
    refine st3.trans ?_
    show Steps p.tables e below (T3.setTop (mkF m 63 #[.val (.long q1), .second, .val (.long q2), .second, .val (.long q3), .second, .val (.long q4), .second, .val (.int (q1.toInt32)), .val (.int (own_hi q1)), .val (.int (q2.toInt32)), .val (.int (own_hi q2)), .val (.int (q3.toInt32)), .val (.int (own_hi q3)), .val (.int (q4.toInt32)), .val (.int (own_hi q4)), .unset, .unset, .unset] [(.ref b1)])) _
    refine XS.astore X3.here hx rfl (hb hby at_63) rfl rfl (l' := #[.val (.long q1), .second, .val (.long q2), .second, .val (.long q3), .second, .val (.long q4), .second, .val (.int (q1.toInt32)), .val (.int (own_hi q1)), .val (.int (q2.toInt32)), .val (.int (own_hi q2)), .val (.int (q3.toInt32)), .val (.int (own_hi q3)), .val (.int (q4.toInt32)), .val (.int (own_hi q4)), .val (.ref b1), .unset, .unset]) rfl ?_
    show Steps p.tables e below (T3.setTop (mkF m 65 #[.val (.long q1), .second, .val (.long q2), .second, .val (.long q3), .second, .val (.long q4), .second, .val (.int (q1.toInt32)), .val (.int (own_hi q1)), .val (.int (q2.toInt32)), .val (.int (own_hi q2)), .val (.int (q3.toInt32)), .val (.int (own_hi q3)), .val (.int (q4.toInt32)), .val (.int (own_hi q4)), .val (.ref b1), .unset, .unset] [])) _
    refine st5 _ ?_
    show Steps p.tables e below (T5.setTop (mkF m 68 #[.val (.long q1), .second, .val (.long q2), .second, .val (.long q3), .second, .val (.long q4), .second, .val (.int (q1.toInt32)), .val (.int (own_hi q1)), .val (.int (q2.toInt32)), .val (.int (own_hi q2)), .val (.int (q3.toInt32)), .val (.int (own_hi q3)), .val (.int (q4.toInt32)), .val (.int (own_hi q4)), .val (.ref b1), .unset, .unset] [(.ref b5)])) _
    refine XS.dup X5.here hx rfl (hb hby at_68) rfl rfl ?_
    show Steps p.tables e below (T5.setTop (mkF m 69 #[.val (.long q1), .second, .val (.long q2), .second, .val (.long q3), .second, .val (.long q4), .second, .val (.int (q1.toInt32)), .val (.int (own_hi q1)), .val (.int (q2.toInt32)), .val (.int (own_hi q2)), .val (.int (q3.toInt32)), .val (.int (own_hi q3)), .val (.int (q4.toInt32)), .val (.int (own_hi q4)), .val (.ref b1), .unset, .unset] [(.ref b5), (.ref b5)])) _
    refine XS.iload X5.here hx rfl (hb hby at_69) rfl ?_
    show Steps p.tables e below (T5.setTop (mkF m 71 #[.val (.long q1), .second, .val (.long q2), .second, .val (.long q3), .second, .val (.long q4), .second, .val (.int (q1.toInt32)), .val (.int (own_hi q1)), .val (.int (q2.toInt32)), .val (.int (own_hi q2)), .val (.int (q3.toInt32)), .val (.int (own_hi q3)), .val (.int (q4.toInt32)), .val (.int (own_hi q4)), .val (.ref b1), .unset, .unset] [(.int (own_hi q1)), (.ref b5), (.ref b5)])) _
    refine XS.iload X5.here hx rfl (hb hby at_71) rfl ?_
    show Steps p.tables e below (T5.setTop (mkF m 73 #[.val (.long q1), .second, .val (.long q2), .second, .val (.long q3), .second, .val (.long q4), .second, .val (.int (q1.toInt32)), .val (.int (own_hi q1)), .val (.int (q2.toInt32)), .val (.int (own_hi q2)), .val (.int (q3.toInt32)), .val (.int (own_hi q3)), .val (.int (q4.toInt32)), .val (.int (own_hi q4)), .val (.ref b1), .unset, .unset] [(.int (own_hi q2)), (.int (own_hi q1)), (.ref b5), (.ref b5)])) _
    refine XS.iload X5.here hx rfl (hb hby at_73) rfl ?_
    show Steps p.tables e below (T5.setTop (mkF m 75 #[.val (.long q1), .second, .val (.long q2), .second, .val (.long q3), .second, .val (.long q4), .second, .val (.int (q1.toInt32)), .val (.int (own_hi q1)), .val (.int (q2.toInt32)), .val (.int (own_hi q2)), .val (.int (q3.toInt32)), .val (.int (own_hi q3)), .val (.int (q4.toInt32)), .val (.int (own_hi q4)), .val (.ref b1), .unset, .unset] [(.int (own_hi q3)), (.int (own_hi q2)), (.int (own_hi q1)), (.ref b5), (.ref b5)])) _
    refine XS.iload X5.here hx rfl (hb hby at_75) rfl ?_
    show Steps p.tables e below (T5.setTop (mkF m 77 #[.val (.long q1), .second, .val (.long q2), .second, .val (.long q3), .second, .val (.long q4), .second, .val (.int (q1.toInt32)), .val (.int (own_hi q1)), .val (.int (q2.toInt32)), .val (.int (own_hi q2)), .val (.int (q3.toInt32)), .val (.int (own_hi q3)), .val (.int (q4.toInt32)), .val (.int (own_hi q4)), .val (.ref b1), .unset, .unset] [(.int (own_hi q4)), (.int (own_hi q3)), (.int (own_hi q2)), (.int (own_hi q1)), (.ref b5), (.ref b5)])) _
    refine st7.trans ?_
    show Steps p.tables e below (T7.setTop (mkF m 80 #[.val (.long q1), .second, .val (.long q2), .second, .val (.long q3), .second, .val (.long q4), .second, .val (.int (q1.toInt32)), .val (.int (own_hi q1)), .val (.int (q2.toInt32)), .val (.int (own_hi q2)), .val (.int (q3.toInt32)), .val (.int (own_hi q3)), .val (.int (q4.toInt32)), .val (.int (own_hi q4)), .val (.ref b1), .unset, .unset] [(.ref b5)])) _
    refine XS.astore X7.here hx rfl (hb hby at_80) rfl rfl (l' := #[.val (.long q1), .second, .val (.long q2), .second, .val (.long q3), .second, .val (.long q4), .second, .val (.int (q1.toInt32)), .val (.int (own_hi q1)), .val (.int (q2.toInt32)), .val (.int (own_hi q2)), .val (.int (q3.toInt32)), .val (.int (own_hi q3)), .val (.int (q4.toInt32)), .val (.int (own_hi q4)), .val (.ref b1), .val (.ref b5), .unset]) rfl ?_
    show Steps p.tables e below (T7.setTop (mkF m 82 #[.val (.long q1), .second, .val (.long q2), .second, .val (.long q3), .second, .val (.long q4), .second, .val (.int (q1.toInt32)), .val (.int (own_hi q1)), .val (.int (q2.toInt32)), .val (.int (own_hi q2)), .val (.int (q3.toInt32)), .val (.int (own_hi q3)), .val (.int (q4.toInt32)), .val (.int (own_hi q4)), .val (.ref b1), .val (.ref b5), .unset] [])) _
    refine XS.aload X7.here hx rfl (hb hby at_82) rfl rfl ?_
    show Steps p.tables e below (T7.setTop (mkF m 84 #[.val (.long q1), .second, .val (.long q2), .second, .val (.long q3), .second, .val (.long q4), .second, .val (.int (q1.toInt32)), .val (.int (own_hi q1)), .val (.int (q2.toInt32)), .val (.int (own_hi q2)), .val (.int (q3.toInt32)), .val (.int (own_hi q3)), .val (.int (q4.toInt32)), .val (.int (own_hi q4)), .val (.ref b1), .val (.ref b5), .unset] [(.ref b1)])) _
    refine XS.aload X7.here hx rfl (hb hby at_84) rfl rfl ?_
    show Steps p.tables e below (T7.setTop (mkF m 86 #[.val (.long q1), .second, .val (.long q2), .second, .val (.long q3), .second, .val (.long q4), .second, .val (.int (q1.toInt32)), .val (.int (own_hi q1)), .val (.int (q2.toInt32)), .val (.int (own_hi q2)), .val (.int (q3.toInt32)), .val (.int (own_hi q3)), .val (.int (q4.toInt32)), .val (.int (own_hi q4)), .val (.ref b1), .val (.ref b5), .unset] [(.ref b5), (.ref b1)])) _
    refine st17.trans ?_
    show Steps p.tables e below (T17.setTop (mkF m 89 #[.val (.long q1), .second, .val (.long q2), .second, .val (.long q3), .second, .val (.long q4), .second, .val (.int (q1.toInt32)), .val (.int (own_hi q1)), .val (.int (q2.toInt32)), .val (.int (own_hi q2)), .val (.int (q3.toInt32)), .val (.int (own_hi q3)), .val (.int (q4.toInt32)), .val (.int (own_hi q4)), .val (.ref b1), .val (.ref b5), .unset] [(.ref c17)])) _
    refine XS.astore X17.here hx rfl (hb hby at_89) rfl rfl (l' := #[.val (.long q1), .second, .val (.long q2), .second, .val (.long q3), .second, .val (.long q4), .second, .val (.int (q1.toInt32)), .val (.int (own_hi q1)), .val (.int (q2.toInt32)), .val (.int (own_hi q2)), .val (.int (q3.toInt32)), .val (.int (own_hi q3)), .val (.int (q4.toInt32)), .val (.int (own_hi q4)), .val (.ref b1), .val (.ref b5), .val (.ref c17)]) rfl ?_
    show Steps p.tables e below (T17.setTop (mkF m 91 #[.val (.long q1), .second, .val (.long q2), .second, .val (.long q3), .second, .val (.long q4), .second, .val (.int (q1.toInt32)), .val (.int (own_hi q1)), .val (.int (q2.toInt32)), .val (.int (own_hi q2)), .val (.int (q3.toInt32)), .val (.int (own_hi q3)), .val (.int (q4.toInt32)), .val (.int (own_hi q4)), .val (.ref b1), .val (.ref b5), .val (.ref c17)] [])) _
    refine XS.aload X17.here hx rfl (hb hby at_91) rfl rfl ?_
    show Steps p.tables e below (T17.setTop (mkF m 93 #[.val (.long q1), .second, .val (.long q2), .second, .val (.long q3), .second, .val (.long q4), .second, .val (.int (q1.toInt32)), .val (.int (own_hi q1)), .val (.int (q2.toInt32)), .val (.int (own_hi q2)), .val (.int (q3.toInt32)), .val (.int (own_hi q3)), .val (.int (q4.toInt32)), .val (.int (own_hi q4)), .val (.ref b1), .val (.ref b5), .val (.ref c17)] [(.ref c17)])) _
    refine st21.trans ?_
    show Steps p.tables e below (T21.setTop (mkF m 96 #[.val (.long q1), .second, .val (.long q2), .second, .val (.long q3), .second, .val (.long q4), .second, .val (.int (q1.toInt32)), .val (.int (own_hi q1)), .val (.int (q2.toInt32)), .val (.int (own_hi q2)), .val (.int (q3.toInt32)), .val (.int (own_hi q3)), .val (.int (q4.toInt32)), .val (.int (own_hi q4)), .val (.ref b1), .val (.ref b5), .val (.ref c17)] [(.int ((q1.toInt32) + (own_hi q1)))])) _
    refine XS.iload X21.here hx rfl (hb hby at_96) rfl ?_
    show Steps p.tables e below (T21.setTop (mkF m 98 #[.val (.long q1), .second, .val (.long q2), .second, .val (.long q3), .second, .val (.long q4), .second, .val (.int (q1.toInt32)), .val (.int (own_hi q1)), .val (.int (q2.toInt32)), .val (.int (own_hi q2)), .val (.int (q3.toInt32)), .val (.int (own_hi q3)), .val (.int (q4.toInt32)), .val (.int (own_hi q4)), .val (.ref b1), .val (.ref b5), .val (.ref c17)] [(.int (q1.toInt32)), (.int ((q1.toInt32) + (own_hi q1)))])) _
    refine XS.iload X21.here hx rfl (hb hby at_98) rfl ?_
    show Steps p.tables e below (T21.setTop (mkF m 100 #[.val (.long q1), .second, .val (.long q2), .second, .val (.long q3), .second, .val (.long q4), .second, .val (.int (q1.toInt32)), .val (.int (own_hi q1)), .val (.int (q2.toInt32)), .val (.int (own_hi q2)), .val (.int (q3.toInt32)), .val (.int (own_hi q3)), .val (.int (q4.toInt32)), .val (.int (own_hi q4)), .val (.ref b1), .val (.ref b5), .val (.ref c17)] [(.int (own_hi q1)), (.int (q1.toInt32)), (.int ((q1.toInt32) + (own_hi q1)))])) _
    refine XS.iadd X21.here hx rfl (hb hby at_100) rfl ?_
    show Steps p.tables e below (T21.setTop (mkF m 101 #[.val (.long q1), .second, .val (.long q2), .second, .val (.long q3), .second, .val (.long q4), .second, .val (.int (q1.toInt32)), .val (.int (own_hi q1)), .val (.int (q2.toInt32)), .val (.int (own_hi q2)), .val (.int (q3.toInt32)), .val (.int (own_hi q3)), .val (.int (q4.toInt32)), .val (.int (own_hi q4)), .val (.ref b1), .val (.ref b5), .val (.ref c17)] [(.int ((q1.toInt32) + (own_hi q1))), (.int ((q1.toInt32) + (own_hi q1)))])) _
    refine XS.icmpNo X21.here hx rfl (hb hby at_101) rfl (teq (rfl : ((q1.toInt32) + (own_hi q1)) = ((q1.toInt32) + (own_hi q1)))).2 ?_
    show Steps p.tables e below (T21.setTop (mkF m 104 #[.val (.long q1), .second, .val (.long q2), .second, .val (.long q3), .second, .val (.long q4), .second, .val (.int (q1.toInt32)), .val (.int (own_hi q1)), .val (.int (q2.toInt32)), .val (.int (own_hi q2)), .val (.int (q3.toInt32)), .val (.int (own_hi q3)), .val (.int (q4.toInt32)), .val (.int (own_hi q4)), .val (.ref b1), .val (.ref b5), .val (.ref c17)] [])) _
    refine XS.aload X21.here hx rfl (hb hby at_104) rfl rfl ?_
    show Steps p.tables e below (T21.setTop (mkF m 106 #[.val (.long q1), .second, .val (.long q2), .second, .val (.long q3), .second, .val (.long q4), .second, .val (.int (q1.toInt32)), .val (.int (own_hi q1)), .val (.int (q2.toInt32)), .val (.int (own_hi q2)), .val (.int (q3.toInt32)), .val (.int (own_hi q3)), .val (.int (q4.toInt32)), .val (.int (own_hi q4)), .val (.ref b1), .val (.ref b5), .val (.ref c17)] [(.ref c17)])) _
    refine st22.trans ?_
    show Steps p.tables e below (T22.setTop (mkF m 109 #[.val (.long q1), .second, .val (.long q2), .second, .val (.long q3), .second, .val (.long q4), .second, .val (.int (q1.toInt32)), .val (.int (own_hi q1)), .val (.int (q2.toInt32)), .val (.int (own_hi q2)), .val (.int (q3.toInt32)), .val (.int (own_hi q3)), .val (.int (q4.toInt32)), .val (.int (own_hi q4)), .val (.ref b1), .val (.ref b5), .val (.ref c17)] [(.int ((q2.toInt32) + (own_hi q2)))])) _
    refine XS.iload X22.here hx rfl (hb hby at_109) rfl ?_
    show Steps p.tables e below (T22.setTop (mkF m 111 #[.val (.long q1), .second, .val (.long q2), .second, .val (.long q3), .second, .val (.long q4), .second, .val (.int (q1.toInt32)), .val (.int (own_hi q1)), .val (.int (q2.toInt32)), .val (.int (own_hi q2)), .val (.int (q3.toInt32)), .val (.int (own_hi q3)), .val (.int (q4.toInt32)), .val (.int (own_hi q4)), .val (.ref b1), .val (.ref b5), .val (.ref c17)] [(.int (q2.toInt32)), (.int ((q2.toInt32) + (own_hi q2)))])) _
    refine XS.iload X22.here hx rfl (hb hby at_111) rfl ?_
    show Steps p.tables e below (T22.setTop (mkF m 113 #[.val (.long q1), .second, .val (.long q2), .second, .val (.long q3), .second, .val (.long q4), .second, .val (.int (q1.toInt32)), .val (.int (own_hi q1)), .val (.int (q2.toInt32)), .val (.int (own_hi q2)), .val (.int (q3.toInt32)), .val (.int (own_hi q3)), .val (.int (q4.toInt32)), .val (.int (own_hi q4)), .val (.ref b1), .val (.ref b5), .val (.ref c17)] [(.int (own_hi q2)), (.int (q2.toInt32)), (.int ((q2.toInt32) + (own_hi q2)))])) _
    refine XS.iadd X22.here hx rfl (hb hby at_113) rfl ?_
    show Steps p.tables e below (T22.setTop (mkF m 114 #[.val (.long q1), .second, .val (.long q2), .second, .val (.long q3), .second, .val (.long q4), .second, .val (.int (q1.toInt32)), .val (.int (own_hi q1)), .val (.int (q2.toInt32)), .val (.int (own_hi q2)), .val (.int (q3.toInt32)), .val (.int (own_hi q3)), .val (.int (q4.toInt32)), .val (.int (own_hi q4)), .val (.ref b1), .val (.ref b5), .val (.ref c17)] [(.int ((q2.toInt32) + (own_hi q2))), (.int ((q2.toInt32) + (own_hi q2)))])) _
    refine XS.icmpNo X22.here hx rfl (hb hby at_114) rfl (teq (rfl : ((q2.toInt32) + (own_hi q2)) = ((q2.toInt32) + (own_hi q2)))).2 ?_
    show Steps p.tables e below (T22.setTop (mkF m 117 #[.val (.long q1), .second, .val (.long q2), .second, .val (.long q3), .second, .val (.long q4), .second, .val (.int (q1.toInt32)), .val (.int (own_hi q1)), .val (.int (q2.toInt32)), .val (.int (own_hi q2)), .val (.int (q3.toInt32)), .val (.int (own_hi q3)), .val (.int (q4.toInt32)), .val (.int (own_hi q4)), .val (.ref b1), .val (.ref b5), .val (.ref c17)] [])) _
    refine XS.aload X22.here hx rfl (hb hby at_117) rfl rfl ?_
    show Steps p.tables e below (T22.setTop (mkF m 119 #[.val (.long q1), .second, .val (.long q2), .second, .val (.long q3), .second, .val (.long q4), .second, .val (.int (q1.toInt32)), .val (.int (own_hi q1)), .val (.int (q2.toInt32)), .val (.int (own_hi q2)), .val (.int (q3.toInt32)), .val (.int (own_hi q3)), .val (.int (q4.toInt32)), .val (.int (own_hi q4)), .val (.ref b1), .val (.ref b5), .val (.ref c17)] [(.ref c17)])) _
    refine st23.trans ?_
    show Steps p.tables e below (T23.setTop (mkF m 122 #[.val (.long q1), .second, .val (.long q2), .second, .val (.long q3), .second, .val (.long q4), .second, .val (.int (q1.toInt32)), .val (.int (own_hi q1)), .val (.int (q2.toInt32)), .val (.int (own_hi q2)), .val (.int (q3.toInt32)), .val (.int (own_hi q3)), .val (.int (q4.toInt32)), .val (.int (own_hi q4)), .val (.ref b1), .val (.ref b5), .val (.ref c17)] [(.int ((q3.toInt32) + (own_hi q3)))])) _
    refine XS.iload X23.here hx rfl (hb hby at_122) rfl ?_
    show Steps p.tables e below (T23.setTop (mkF m 124 #[.val (.long q1), .second, .val (.long q2), .second, .val (.long q3), .second, .val (.long q4), .second, .val (.int (q1.toInt32)), .val (.int (own_hi q1)), .val (.int (q2.toInt32)), .val (.int (own_hi q2)), .val (.int (q3.toInt32)), .val (.int (own_hi q3)), .val (.int (q4.toInt32)), .val (.int (own_hi q4)), .val (.ref b1), .val (.ref b5), .val (.ref c17)] [(.int (q3.toInt32)), (.int ((q3.toInt32) + (own_hi q3)))])) _
    refine XS.iload X23.here hx rfl (hb hby at_124) rfl ?_
    show Steps p.tables e below (T23.setTop (mkF m 126 #[.val (.long q1), .second, .val (.long q2), .second, .val (.long q3), .second, .val (.long q4), .second, .val (.int (q1.toInt32)), .val (.int (own_hi q1)), .val (.int (q2.toInt32)), .val (.int (own_hi q2)), .val (.int (q3.toInt32)), .val (.int (own_hi q3)), .val (.int (q4.toInt32)), .val (.int (own_hi q4)), .val (.ref b1), .val (.ref b5), .val (.ref c17)] [(.int (own_hi q3)), (.int (q3.toInt32)), (.int ((q3.toInt32) + (own_hi q3)))])) _
    refine XS.iadd X23.here hx rfl (hb hby at_126) rfl ?_
    show Steps p.tables e below (T23.setTop (mkF m 127 #[.val (.long q1), .second, .val (.long q2), .second, .val (.long q3), .second, .val (.long q4), .second, .val (.int (q1.toInt32)), .val (.int (own_hi q1)), .val (.int (q2.toInt32)), .val (.int (own_hi q2)), .val (.int (q3.toInt32)), .val (.int (own_hi q3)), .val (.int (q4.toInt32)), .val (.int (own_hi q4)), .val (.ref b1), .val (.ref b5), .val (.ref c17)] [(.int ((q3.toInt32) + (own_hi q3))), (.int ((q3.toInt32) + (own_hi q3)))])) _
    refine XS.icmpNo X23.here hx rfl (hb hby at_127) rfl (teq (rfl : ((q3.toInt32) + (own_hi q3)) = ((q3.toInt32) + (own_hi q3)))).2 ?_
    show Steps p.tables e below (T23.setTop (mkF m 130 #[.val (.long q1), .second, .val (.long q2), .second, .val (.long q3), .second, .val (.long q4), .second, .val (.int (q1.toInt32)), .val (.int (own_hi q1)), .val (.int (q2.toInt32)), .val (.int (own_hi q2)), .val (.int (q3.toInt32)), .val (.int (own_hi q3)), .val (.int (q4.toInt32)), .val (.int (own_hi q4)), .val (.ref b1), .val (.ref b5), .val (.ref c17)] [])) _
    refine XS.aload X23.here hx rfl (hb hby at_130) rfl rfl ?_
    show Steps p.tables e below (T23.setTop (mkF m 132 #[.val (.long q1), .second, .val (.long q2), .second, .val (.long q3), .second, .val (.long q4), .second, .val (.int (q1.toInt32)), .val (.int (own_hi q1)), .val (.int (q2.toInt32)), .val (.int (own_hi q2)), .val (.int (q3.toInt32)), .val (.int (own_hi q3)), .val (.int (q4.toInt32)), .val (.int (own_hi q4)), .val (.ref b1), .val (.ref b5), .val (.ref c17)] [(.ref c17)])) _
    refine st24.trans ?_
    show Steps p.tables e below (T24.setTop (mkF m 135 #[.val (.long q1), .second, .val (.long q2), .second, .val (.long q3), .second, .val (.long q4), .second, .val (.int (q1.toInt32)), .val (.int (own_hi q1)), .val (.int (q2.toInt32)), .val (.int (own_hi q2)), .val (.int (q3.toInt32)), .val (.int (own_hi q3)), .val (.int (q4.toInt32)), .val (.int (own_hi q4)), .val (.ref b1), .val (.ref b5), .val (.ref c17)] [(.int ((q4.toInt32) + (own_hi q4)))])) _
    refine XS.iload X24.here hx rfl (hb hby at_135) rfl ?_
    show Steps p.tables e below (T24.setTop (mkF m 137 #[.val (.long q1), .second, .val (.long q2), .second, .val (.long q3), .second, .val (.long q4), .second, .val (.int (q1.toInt32)), .val (.int (own_hi q1)), .val (.int (q2.toInt32)), .val (.int (own_hi q2)), .val (.int (q3.toInt32)), .val (.int (own_hi q3)), .val (.int (q4.toInt32)), .val (.int (own_hi q4)), .val (.ref b1), .val (.ref b5), .val (.ref c17)] [(.int (q4.toInt32)), (.int ((q4.toInt32) + (own_hi q4)))])) _
    refine XS.iload X24.here hx rfl (hb hby at_137) rfl ?_
    show Steps p.tables e below (T24.setTop (mkF m 139 #[.val (.long q1), .second, .val (.long q2), .second, .val (.long q3), .second, .val (.long q4), .second, .val (.int (q1.toInt32)), .val (.int (own_hi q1)), .val (.int (q2.toInt32)), .val (.int (own_hi q2)), .val (.int (q3.toInt32)), .val (.int (own_hi q3)), .val (.int (q4.toInt32)), .val (.int (own_hi q4)), .val (.ref b1), .val (.ref b5), .val (.ref c17)] [(.int (own_hi q4)), (.int (q4.toInt32)), (.int ((q4.toInt32) + (own_hi q4)))])) _
    refine XS.iadd X24.here hx rfl (hb hby at_139) rfl ?_
    show Steps p.tables e below (T24.setTop (mkF m 140 #[.val (.long q1), .second, .val (.long q2), .second, .val (.long q3), .second, .val (.long q4), .second, .val (.int (q1.toInt32)), .val (.int (own_hi q1)), .val (.int (q2.toInt32)), .val (.int (own_hi q2)), .val (.int (q3.toInt32)), .val (.int (own_hi q3)), .val (.int (q4.toInt32)), .val (.int (own_hi q4)), .val (.ref b1), .val (.ref b5), .val (.ref c17)] [(.int ((q4.toInt32) + (own_hi q4))), (.int ((q4.toInt32) + (own_hi q4)))])) _
    refine XS.icmpNo X24.here hx rfl (hb hby at_140) rfl (teq (rfl : ((q4.toInt32) + (own_hi q4)) = ((q4.toInt32) + (own_hi q4)))).2 ?_
    show Steps p.tables e below (T24.setTop (mkF m 143 #[.val (.long q1), .second, .val (.long q2), .second, .val (.long q3), .second, .val (.long q4), .second, .val (.int (q1.toInt32)), .val (.int (own_hi q1)), .val (.int (q2.toInt32)), .val (.int (own_hi q2)), .val (.int (q3.toInt32)), .val (.int (own_hi q3)), .val (.int (q4.toInt32)), .val (.int (own_hi q4)), .val (.ref b1), .val (.ref b5), .val (.ref c17)] [])) _
    refine XS.iconst X24.here hx rfl (hb hby at_143) ?_
    show Steps p.tables e below (T24.setTop (mkF m 144 #[.val (.long q1), .second, .val (.long q2), .second, .val (.long q3), .second, .val (.long q4), .second, .val (.int (q1.toInt32)), .val (.int (own_hi q1)), .val (.int (q2.toInt32)), .val (.int (own_hi q2)), .val (.int (q3.toInt32)), .val (.int (own_hi q3)), .val (.int (q4.toInt32)), .val (.int (own_hi q4)), .val (.ref b1), .val (.ref b5), .val (.ref c17)] [(.int (1 : Int32))])) _
    refine XS.goto X24.here hx rfl (pc0 := 144) (pc' := 148) rfl (hb hby at_144) (by decide) (by decide) ?_
    show Steps p.tables e below (T24.setTop (mkF m 148 #[.val (.long q1), .second, .val (.long q2), .second, .val (.long q3), .second, .val (.long q4), .second, .val (.int (q1.toInt32)), .val (.int (own_hi q1)), .val (.int (q2.toInt32)), .val (.int (own_hi q2)), .val (.int (q3.toInt32)), .val (.int (own_hi q3)), .val (.int (q4.toInt32)), .val (.int (own_hi q4)), .val (.ref b1), .val (.ref b5), .val (.ref c17)] [(.int (1 : Int32))])) _
    exact retN X24 hx (t := .boolean) Bd.returns (by simp) (hb hby at_148) hr
  · show Qrm0 Z q1 q2 q3 q4  h0 n0 _ T24.heap _
    rw [e24]
    exact ⟨rfl, N24⟩
set_option maxRecDepth 65536 in
set_option maxHeartbeats 40000000 in
theorem comes_1 {Post : Tables → Env → Array Value → State → Outcome → State → Prop} (hpost : ∀ tb e args s v u, (limb_1_1.after args s (.returned v) u = true ∧ limb_1_2.after args s (.returned v) u = true ∧ True) → FrameEnd s (.returned v) u (Jvm.fieldLocs frame_1_writes args s ++ Jvm.arrayLocs frame_1_arrays args s ++ Jvm.staticLocs frame_1_statics s) 16 128 → Post tb e args s (.returned v) u) :
    ArmFor flags0 classFile x code maxLocals ret World_1 tables_1 room_1 Calls_1 rest_1 Pre_1 Post := by
  intro l hfl _ _ p e ha hc hk s m args below hf hA hF happ hP
  obtain ⟨hcalls, hrest, hpre⟩ := hP
  obtain ⟨-, -, -, hnamed, -, -, -, hat⟩ := (Spec.applies_iff hf).mp happ
  obtain ⟨hg, hn⟩ := and_e (Cond.before_iff.mp (show (Jvm.Cond.and given_1 narrow_1).before args s = true from hpre))
  obtain ⟨gv1, gv2⟩ := and_e hg
  obtain ⟨gv3, gv4⟩ := and_e gv2
  obtain ⟨gv5, gv6⟩ := and_e gv4
  obtain ⟨gv7, gv8⟩ := and_e gv6
  obtain ⟨w0, w1, w2, w3, rfl⟩ : ∃ w0 w1 w2 w3 : Value, args = #[w0, w1, w2, w3] := by
    have hs : args.size = 4 := by simpa [Cond.value, given_1] using gv1
    obtain ⟨L⟩ := args
    match L, hs with
    | [w0, w1, w2, w3], _ => exact ⟨w0, w1, w2, w3, rfl⟩
  have hw := fun d (hd : d ∈ tables_1) => atoms_spec (ws := Jvm.Cond.code x code maxLocals ret :: tables_1) hat d (List.mem_cons_of_mem _ hd)
  have hfit : Fit s := fun {y c} hc i hi => by
    obtain ⟨ha, rfl⟩ := Array.getElem?_eq_some_iff.mp hc
    have q := List.all_eq_true.mp ((Array.all_eq_true_iff_forall_mem.mp hF) _ (Array.getElem_mem ha)) i (List.mem_range.mpr hi)
    simpa [Array.getElem?_eq_getElem hi] using q
  obtain ⟨i0, ei0⟩ := isL_v gv3
  obtain rfl : w0 = (.long i0) := Option.some.inj ei0
  obtain ⟨i1, ei1⟩ := isL_v gv5
  obtain rfl : w1 = (.long i1) := Option.some.inj ei1
  obtain ⟨i2, ei2⟩ := isL_v gv7
  obtain rfl : w2 = (.long i2) := Option.some.inj ei2
  obtain ⟨i3, ei3⟩ := isL_v gv8
  obtain rfl : w3 = (.long i3) := Option.some.inj ei3
  obtain ⟨n, o, h1, h2, h3, _, L, rfl, ⟨rfl, N⟩, hq⟩ := rm0 l s _ hw tables_1 i0 i1 i2 i3  s.heap s.heap.size (Nat.le_refl _)  p e ha hc hk s m _ below hf ((Spec.applies_iff_loose hf).mp happ).1 ⟨rfl, State.Warmed39.refl s, rfl⟩ trivial
  refine ⟨n, _, h1, h2, h3, hpost _ _ _ _ _ _ ⟨Cond.after_iff.mpr rfl, Cond.after_iff.mpr (eq_i res_at (Term.int_eval (1)) rfl), trivial⟩ ⟨hq.1, hq.2.1, (hq.2.2.sift fun y hy => Or.inr (N y hy)).mono (by decide) (by decide)⟩⟩
theorem main_1_1 : Claimed_1_1 := comes_1 fun _ _ _ _ _ _ h hF => ⟨h.1, hF⟩
theorem main_1_2 : Claimed_1_2 := comes_1 fun _ _ _ _ _ _ h hF => ⟨h.2.1, hF⟩
end Jvm.Pilot.@@N@@
namespace Jvm.Pilot.@@N@@
open Jvm Jvm.ClassFile Sem Op Lib Jvm.Free Jvm.Stand Jvm.Pilot.@@N@@.Jvm.D
/-! MADE BY PROGRAM (witnessworld.py) out of the Statement's table words and the real class files: 9 classes; the members and pool entries that the words name. The judged class is class 1, her method 1. -/
namespace start1
open Jvm.ClassFile
def u (s : String) : CpInfo := .utf8 (stringToUtf16 s)
/-- a pool by its gaps: so many unusable entries, then the entry; so many at the end -/
def gap : Nat → List CpInfo → List CpInfo
  | 0, r => r
  | n + 1, r => .unusable :: gap n r
def poolList (es : List (Nat × CpInfo)) (last : Nat) : List CpInfo := es.foldr (fun e r => gap e.1 (e.2 :: r)) (gap last [])
def pool (es : List (Nat × CpInfo)) (last : Nat) : Array CpInfo := ⟨poolList es last⟩
def fileOf (pool : Array CpInfo) (this : Nat) (attrs : Array Attribute := #[]) (ms : Array MethodInfo := #[]) (fl : Nat := 33) (sup : Nat := 0) (ifs : Array Nat := #[]) (fds : Array FieldInfo := #[]) : ClassFile where
  minorVersion := 0
  majorVersion := 65
  constantPool := pool
  accessFlags := fl
  thisClass := this
  superClass := sup
  interfaces := ifs
  fields := fds
  methods := ms
  attributes := attrs
def plain (name : String) (sup : Option ClassId) : Class where
  name := name
  kind := .ordinary
  loader := none
  accessFlags := 33
  super := sup
  interfaces := #[]
  cf := none
  fields := #[]
  methods := #[]
  instanceTypes := #[]
  staticTypes := #[]
  resolved := #[]
  callSites := []
  init := .initialized
  statics := none
  mirror := none

def pool0 : Array CpInfo := pool [(5, u "<init>"), (0, u "()V"), (1, .class_ 10), (1, u "java/lang/Object")] 113

def k0c0 : Code := { maxStack := 0, maxLocals := 1, code := object_method_1_code, exceptionTable := #[], attributes := #[] }
def k0m0 : Method := { name := "<init>", desc := "()V", sig := { parameters := [], returnType := none }, accessFlags := 1, code := some k0c0 }
/-- java/lang/Object -/
def k0 : Class := { plain "java/lang/Object" none with
  accessFlags := 33
  interfaces := #[]
  cf := some (fileOf pool0 8 #[] #[{ accessFlags := 1, nameIndex := 5, descriptorIndex := 6, attributes := #[] }] 33 0 #[] #[])
  fields := #[]
  methods := #[k0m0]
  instanceTypes := #[]
  staticTypes := #[]
  resolved := Array.replicate 124 none
  statics := none }

def pool1 : Array CpInfo := pool [(2, .class_ 4), (1, u "java/lang/Object"), (0, u "<init>"), (0, u "()V"), (0, .class_ 8), (0, u "com/example/sonar_sweep/sonarsweep/crawl/CrawlSummary"), (0, .methodref 7 10), (0, .nameAndType 5 11), (0, u "(IIII)V"), (0, .methodref 7 13), (0, .nameAndType 14 15), (0, u "plus"), (0, u "(Lcom/example/sonar_sweep/sonarsweep/crawl/CrawlSummary;)Lcom/example/sonar_sweep/sonarsweep/crawl/CrawlSummary;"), (0, .methodref 7 17), (0, .nameAndType 18 19), (0, u "pages"), (0, u "()I"), (0, .methodref 7 21), (0, .nameAndType 22 19), (0, u "forms"), (0, .methodref 7 24), (0, .nameAndType 25 19), (0, u "searchable"), (0, .methodref 7 27), (0, .nameAndType 28 19), (0, u "sites"), (0, .class_ 30), (0, u "com/example/sonar_sweep/sonarsweep/crawl/CrawlSummaryPlusPinLaw"), (2, u "law"), (0, u "(JJJJ)Z")] 3

def k1m0 : Method := { name := "<init>", desc := "()V", sig := { parameters := [], returnType := none }, accessFlags := 1, code := none }
def k1c1 : Code := { maxStack := 6, maxLocals := 19, code := code, exceptionTable := #[], attributes := #[] }
def k1m1 : Method := { name := "law", desc := "(JJJJ)Z", sig := { parameters := [.long, .long, .long, .long], returnType := some .boolean }, accessFlags := 9, code := some k1c1 }
/-- com/example/sonar_sweep/sonarsweep/crawl/CrawlSummaryPlusPinLaw -/
def k1 : Class := { plain "com/example/sonar_sweep/sonarsweep/crawl/CrawlSummaryPlusPinLaw" (some 0) with
  accessFlags := 49
  interfaces := #[]
  cf := some (fileOf pool1 29 #[] #[{ accessFlags := 1, nameIndex := 5, descriptorIndex := 6, attributes := #[] }, { accessFlags := 9, nameIndex := 33, descriptorIndex := 34, attributes := #[] }] 49 2 #[] #[])
  fields := #[]
  methods := #[k1m0, k1m1]
  instanceTypes := #[]
  staticTypes := #[]
  resolved := Array.replicate 38 none
  statics := none }

def pool2 : Array CpInfo := pool [(1, .methodref 2 3), (0, .class_ 4), (0, .nameAndType 5 6), (0, u "java/lang/Object"), (0, u "<init>"), (0, u "()V"), (0, .fieldref 8 9), (0, .class_ 10), (0, .nameAndType 11 12), (0, u "com/example/sonar_sweep/sonarsweep/crawl/CrawlSummary"), (0, u "pages"), (0, u "I"), (0, .fieldref 8 14), (0, .nameAndType 15 12), (0, u "forms"), (0, .fieldref 8 17), (0, .nameAndType 18 12), (0, u "searchable"), (0, .fieldref 8 20), (0, .nameAndType 21 12), (0, u "sites"), (0, .methodref 8 23), (0, .nameAndType 5 24), (0, u "(IIII)V"), (2, u "()I"), (0, u "plus"), (0, u "(Lcom/example/sonar_sweep/sonarsweep/crawl/CrawlSummary;)Lcom/example/sonar_sweep/sonarsweep/crawl/CrawlSummary;")] 2

def k2c0 : Code := { maxStack := 2, maxLocals := 5, code := prog_3_method_1_code, exceptionTable := #[], attributes := #[] }
def k2m0 : Method := { name := "<init>", desc := "(IIII)V", sig := { parameters := [.int, .int, .int, .int], returnType := none }, accessFlags := 0, code := some k2c0 }
def k2c1 : Code := { maxStack := 1, maxLocals := 1, code := prog_3_method_2_code, exceptionTable := #[], attributes := #[] }
def k2m1 : Method := { name := "pages", desc := "()I", sig := { parameters := [], returnType := some .int }, accessFlags := 1, code := some k2c1 }
def k2c2 : Code := { maxStack := 1, maxLocals := 1, code := prog_3_method_3_code, exceptionTable := #[], attributes := #[] }
def k2m2 : Method := { name := "forms", desc := "()I", sig := { parameters := [], returnType := some .int }, accessFlags := 1, code := some k2c2 }
def k2c3 : Code := { maxStack := 1, maxLocals := 1, code := prog_3_method_4_code, exceptionTable := #[], attributes := #[] }
def k2m3 : Method := { name := "searchable", desc := "()I", sig := { parameters := [], returnType := some .int }, accessFlags := 1, code := some k2c3 }
def k2c4 : Code := { maxStack := 1, maxLocals := 1, code := prog_3_method_5_code, exceptionTable := #[], attributes := #[] }
def k2m4 : Method := { name := "sites", desc := "()I", sig := { parameters := [], returnType := some .int }, accessFlags := 1, code := some k2c4 }
def k2c5 : Code := { maxStack := 7, maxLocals := 2, code := prog_3_method_6_code, exceptionTable := #[], attributes := #[] }
def k2m5 : Method := { name := "plus", desc := "(Lcom/example/sonar_sweep/sonarsweep/crawl/CrawlSummary;)Lcom/example/sonar_sweep/sonarsweep/crawl/CrawlSummary;", sig := { parameters := [(.object "com/example/sonar_sweep/sonarsweep/crawl/CrawlSummary")], returnType := some (.object "com/example/sonar_sweep/sonarsweep/crawl/CrawlSummary") }, accessFlags := 0, code := some k2c5 }
/-- com/example/sonar_sweep/sonarsweep/crawl/CrawlSummary -/
def k2 : Class := { plain "com/example/sonar_sweep/sonarsweep/crawl/CrawlSummary" (some 0) with
  accessFlags := 33
  interfaces := #[]
  cf := some (fileOf pool2 8 #[] #[{ accessFlags := 0, nameIndex := 5, descriptorIndex := 24, attributes := #[] }, { accessFlags := 1, nameIndex := 11, descriptorIndex := 27, attributes := #[] }, { accessFlags := 1, nameIndex := 15, descriptorIndex := 27, attributes := #[] }, { accessFlags := 1, nameIndex := 18, descriptorIndex := 27, attributes := #[] }, { accessFlags := 1, nameIndex := 21, descriptorIndex := 27, attributes := #[] }, { accessFlags := 0, nameIndex := 28, descriptorIndex := 29, attributes := #[] }] 33 2 #[] #[{ accessFlags := 18, nameIndex := 11, descriptorIndex := 12, attributes := #[] }, { accessFlags := 18, nameIndex := 15, descriptorIndex := 12, attributes := #[] }, { accessFlags := 18, nameIndex := 18, descriptorIndex := 12, attributes := #[] }, { accessFlags := 18, nameIndex := 21, descriptorIndex := 12, attributes := #[] }])
  fields := #[{ name := "pages", type := .int, accessFlags := 18, slot := 0, constantValue := 0 }, { name := "forms", type := .int, accessFlags := 18, slot := 1, constantValue := 0 }, { name := "searchable", type := .int, accessFlags := 18, slot := 2, constantValue := 0 }, { name := "sites", type := .int, accessFlags := 18, slot := 3, constantValue := 0 }]
  methods := #[k2m0, k2m1, k2m2, k2m3, k2m4, k2m5]
  instanceTypes := #[.int, .int, .int, .int]
  staticTypes := #[]
  resolved := Array.replicate 32 none
  statics := none }

def pool3 : Array CpInfo := pool [(1, u "java/lang/Cloneable"), (0, .class_ 1), (0, u "java/lang/Object"), (0, .class_ 3)] 3

/-- java/lang/Cloneable -/
def k3 : Class := { plain "java/lang/Cloneable" (some 0) with
  accessFlags := 1537
  interfaces := #[]
  cf := some (fileOf pool3 2 #[] #[] 1537 4 #[] #[])
  fields := #[]
  methods := #[]
  instanceTypes := #[]
  staticTypes := #[]
  resolved := Array.replicate 8 none
  statics := none }

def pool4 : Array CpInfo := pool [(1, u "java/io/Serializable"), (0, .class_ 1), (0, u "java/lang/Object"), (0, .class_ 3)] 3

/-- java/io/Serializable -/
def k4 : Class := { plain "java/io/Serializable" (some 0) with
  accessFlags := 1537
  interfaces := #[]
  cf := some (fileOf pool4 2 #[] #[] 1537 4 #[] #[])
  fields := #[]
  methods := #[]
  instanceTypes := #[]
  staticTypes := #[]
  resolved := Array.replicate 8 none
  statics := none }

/-- the primitive byte -/
def k5 : Class := { plain "byte" none with kind := .primitive 'B', accessFlags := 0x411 }
/-- [B -/
def k6 : Class := { plain "[B" (some 0) with kind := .array 5 .byte, interfaces := #[3, 4], accessFlags := 1041 }

/-- the primitive int -/
def k7 : Class := { plain "int" none with kind := .primitive 'I', accessFlags := 0x411 }
/-- [I -/
def k8 : Class := { plain "[I" (some 0) with kind := .array 7 .int, interfaces := #[3, 4], accessFlags := 1041 }

def heap : Heap := #[]
def classes : Array Class := #[k0, k1, k2, k3, k4, k5, k6, k7, k8]
def interned : List (Array UInt16 × Addr) := []
def slotsUsed : Nat := 0
def theMethod : MethodId := ⟨1, 1⟩
def args0 : Array Value := #[.long 5, .long 7, .long 9, .long 11]
def aboutOver (below : List Frame) : State where
  vm := { classes := classes, interned := interned.toArray }
  heap := heap
  slotsUsed := slotsUsed
  threads := #[{ frames := .invoking theMethod args0 :: below }]
def below0 : List Frame := [.native { method := ⟨0, 0⟩, args := #[] }]
def about1 : State := aboutOver below0
def p0 : Program := .bare "" "" ""
def e0 : Env := launch0.env 0 0 0
theorem w_frames : about1.frames = Frame.invoking theMethod args0 :: below0 := rfl
set_option maxRecDepth 65536 in
theorem w_args : argsFit about1.vm theMethod args0 = true := by decide +kernel
set_option maxRecDepth 65536 in
theorem w_heap : heapFits about1 = true := by decide +kernel
set_option maxRecDepth 65536 in
theorem w_runnable : about1.curStatus? = some .runnable := by decide +kernel
set_option maxRecDepth 65536 in
theorem w_alone : about1.alone = true := by decide +kernel
set_option maxRecDepth 65536 in
theorem w_named : about1.methodNamed? x = some theMethod := by decide +kernel
set_option maxRecDepth 65536 in
theorem w_hears : about1.hears theMethod below0 = true := by decide +kernel
set_option maxRecDepth 65536 in
theorem w_ripe : about1.ripe theMethod args0 below0 = true := by decide +kernel
theorem w_running : about1.status = .running := rfl
set_option maxRecDepth 65536 in
theorem w_room : about1.hasRoom e0.platform room_1 = true :=
  launch0.hasRoom_least _ room_1 (by decide +kernel) (by decide +kernel) (by decide +kernel) (by decide +kernel) (by decide +kernel) (by decide +kernel)
theorem allAtoms_all (ts : List Jvm.Cond) (a : Array Jvm.Value) (st : Jvm.State) : (allAtoms ts).before a st = ts.all (fun c => c.before a st) := by
  induction ts with
  | nil => rfl
  | cons c t ih =>
    show (Jvm.Cond.and c (allAtoms t)).before a st = _
    rw [Jvm.Cond.before_and, ih, List.all_cons]
def words1 : List Jvm.Cond := Jvm.Cond.code x code maxLocals ret :: tables_1
/-- a 'code' word, met by the world's own term for the bytes: nothing is compared byte by byte -/
theorem code_word {y : MethodName} {bytes : ByteArray} {mx : Nat} {rt : Option FieldType} {a : Array Value} {s : State} {m : MethodId} {meth : Method} {c : Code} (h1 : s.methodNamed? y = some m) (h2 : s.vm.method? m = some meth) (h3 : meth.code = some c) (h4 : c.code = bytes)
    (h5 : (c.maxLocals == mx && c.exceptionTable.isEmpty && decide (c.maxStack ≤ mostOperands) && decide (meth.sig.returnType = rt) && !meth.locks && decide (parseMethodDescriptor y.desc = some meth.sig)) = true) : (Jvm.Cond.code y bytes mx rt).before a s = true := by
  simp only [Bool.and_eq_true, beq_iff_eq, Bool.not_eq_true', decide_eq_true_eq] at h5
  obtain ⟨⟨⟨⟨⟨g1, g2⟩, g3⟩, g4⟩, g5⟩, g6⟩ := h5
  simp [Cond.before, Cond.holds, Cond.value, h1, h2, h3, h4, g1, g2, g3, g4, g5, g6]
def isCode : Jvm.Cond → Bool
  | .code _ _ _ _ => true
  | _ => false
theorem all_split {L : List Jvm.Cond} {P : Jvm.Cond → Bool} (h1 : L.all (fun c => isCode c || P c) = true) (h2 : ∀ c ∈ L.filter isCode, P c = true) : L.all P = true := by
  refine List.all_eq_true.mpr fun c hc => ?_
  have h := List.all_eq_true.mp h1 c hc
  rcases Bool.eq_false_or_eq_true (isCode c) with hi | hi
  · exact h2 c (List.mem_filter.mpr ⟨hc, hi⟩)
  · simpa [hi] using h
set_option maxRecDepth 65536 in
theorem w_c0 : (Jvm.Cond.code x code maxLocals ret).before args0 about1 = true := code_word (m := ⟨1, 1⟩) (meth := k1m1) (c := k1c1) (by decide +kernel) rfl rfl rfl (by decide +kernel)
set_option maxRecDepth 65536 in
theorem w_c1 : (Jvm.Cond.code ({ cls := "com/example/sonar_sweep/sonarsweep/crawl/CrawlSummary", name := "<init>", desc := "(IIII)V" } : Jvm.MethodName) prog_3_method_1_code (5 : Nat) (Option.none : Option Jvm.ClassFile.FieldType)).before args0 about1 = true := code_word (m := ⟨2, 0⟩) (meth := k2m0) (c := k2c0) (by decide +kernel) rfl rfl rfl (by decide +kernel)
set_option maxRecDepth 65536 in
theorem w_c2 : (Jvm.Cond.code ({ cls := "java/lang/Object", name := "<init>", desc := "()V" } : Jvm.MethodName) object_method_1_code (1 : Nat) (Option.none : Option Jvm.ClassFile.FieldType)).before args0 about1 = true := code_word (m := ⟨0, 0⟩) (meth := k0m0) (c := k0c0) (by decide +kernel) rfl rfl rfl (by decide +kernel)
set_option maxRecDepth 65536 in
theorem w_c3 : (Jvm.Cond.code ({ cls := "com/example/sonar_sweep/sonarsweep/crawl/CrawlSummary", name := "plus", desc := "(Lcom/example/sonar_sweep/sonarsweep/crawl/CrawlSummary;)Lcom/example/sonar_sweep/sonarsweep/crawl/CrawlSummary;" } : Jvm.MethodName) prog_3_method_6_code (2 : Nat) (Option.some (Jvm.ClassFile.FieldType.object "com/example/sonar_sweep/sonarsweep/crawl/CrawlSummary"))).before args0 about1 = true := code_word (m := ⟨2, 5⟩) (meth := k2m5) (c := k2c5) (by decide +kernel) rfl rfl rfl (by decide +kernel)
set_option maxRecDepth 65536 in
theorem w_c4 : (Jvm.Cond.code ({ cls := "com/example/sonar_sweep/sonarsweep/crawl/CrawlSummary", name := "pages", desc := "()I" } : Jvm.MethodName) prog_3_method_2_code (1 : Nat) (Option.some Jvm.ClassFile.FieldType.int)).before args0 about1 = true := code_word (m := ⟨2, 1⟩) (meth := k2m1) (c := k2c1) (by decide +kernel) rfl rfl rfl (by decide +kernel)
set_option maxRecDepth 65536 in
theorem w_c5 : (Jvm.Cond.code ({ cls := "com/example/sonar_sweep/sonarsweep/crawl/CrawlSummary", name := "forms", desc := "()I" } : Jvm.MethodName) prog_3_method_3_code (1 : Nat) (Option.some Jvm.ClassFile.FieldType.int)).before args0 about1 = true := code_word (m := ⟨2, 2⟩) (meth := k2m2) (c := k2c2) (by decide +kernel) rfl rfl rfl (by decide +kernel)
set_option maxRecDepth 65536 in
theorem w_c6 : (Jvm.Cond.code ({ cls := "com/example/sonar_sweep/sonarsweep/crawl/CrawlSummary", name := "searchable", desc := "()I" } : Jvm.MethodName) prog_3_method_4_code (1 : Nat) (Option.some Jvm.ClassFile.FieldType.int)).before args0 about1 = true := code_word (m := ⟨2, 3⟩) (meth := k2m3) (c := k2c3) (by decide +kernel) rfl rfl rfl (by decide +kernel)
set_option maxRecDepth 65536 in
theorem w_c7 : (Jvm.Cond.code ({ cls := "com/example/sonar_sweep/sonarsweep/crawl/CrawlSummary", name := "sites", desc := "()I" } : Jvm.MethodName) prog_3_method_5_code (1 : Nat) (Option.some Jvm.ClassFile.FieldType.int)).before args0 about1 = true := code_word (m := ⟨2, 4⟩) (meth := k2m4) (c := k2c4) (by decide +kernel) rfl rfl rfl (by decide +kernel)
def codes1 : List Jvm.Cond := [Jvm.Cond.code x code maxLocals ret, Jvm.Cond.code ({ cls := "com/example/sonar_sweep/sonarsweep/crawl/CrawlSummary", name := "<init>", desc := "(IIII)V" } : Jvm.MethodName) prog_3_method_1_code (5 : Nat) (Option.none : Option Jvm.ClassFile.FieldType), Jvm.Cond.code ({ cls := "java/lang/Object", name := "<init>", desc := "()V" } : Jvm.MethodName) object_method_1_code (1 : Nat) (Option.none : Option Jvm.ClassFile.FieldType), Jvm.Cond.code ({ cls := "com/example/sonar_sweep/sonarsweep/crawl/CrawlSummary", name := "plus", desc := "(Lcom/example/sonar_sweep/sonarsweep/crawl/CrawlSummary;)Lcom/example/sonar_sweep/sonarsweep/crawl/CrawlSummary;" } : Jvm.MethodName) prog_3_method_6_code (2 : Nat) (Option.some (Jvm.ClassFile.FieldType.object "com/example/sonar_sweep/sonarsweep/crawl/CrawlSummary")), Jvm.Cond.code ({ cls := "com/example/sonar_sweep/sonarsweep/crawl/CrawlSummary", name := "pages", desc := "()I" } : Jvm.MethodName) prog_3_method_2_code (1 : Nat) (Option.some Jvm.ClassFile.FieldType.int), Jvm.Cond.code ({ cls := "com/example/sonar_sweep/sonarsweep/crawl/CrawlSummary", name := "forms", desc := "()I" } : Jvm.MethodName) prog_3_method_3_code (1 : Nat) (Option.some Jvm.ClassFile.FieldType.int), Jvm.Cond.code ({ cls := "com/example/sonar_sweep/sonarsweep/crawl/CrawlSummary", name := "searchable", desc := "()I" } : Jvm.MethodName) prog_3_method_4_code (1 : Nat) (Option.some Jvm.ClassFile.FieldType.int), Jvm.Cond.code ({ cls := "com/example/sonar_sweep/sonarsweep/crawl/CrawlSummary", name := "sites", desc := "()I" } : Jvm.MethodName) prog_3_method_5_code (1 : Nat) (Option.some Jvm.ClassFile.FieldType.int)]
set_option maxRecDepth 65536 in
theorem codes_eq : words1.filter isCode = codes1 := rfl
theorem w_codes : ∀ c ∈ words1.filter isCode, c.before args0 about1 = true := by
  rw [codes_eq]
  intro c hc
  simp only [codes1, List.mem_cons, List.not_mem_nil, or_false] at hc
  rcases hc with rfl | rfl | rfl | rfl | rfl | rfl | rfl | rfl
  · exact w_c0
  · exact w_c1
  · exact w_c2
  · exact w_c3
  · exact w_c4
  · exact w_c5
  · exact w_c6
  · exact w_c7
set_option maxRecDepth 65536 in
theorem w_t1 : (words1.take 24).all (fun c => isCode c || c.before args0 about1) = true := by decide +kernel
set_option maxRecDepth 65536 in
theorem w_t2 : (words1.drop 24).all (fun c => isCode c || c.before args0 about1) = true := by decide +kernel
theorem w_tables : (allAtoms (Jvm.Cond.code x code maxLocals ret :: tables_1)).before args0 about1 = true := by
  rw [allAtoms_all]
  show words1.all (fun c => c.before args0 about1) = true
  refine all_split ?_ w_codes
  rw [← List.take_append_drop 24 words1, List.all_append, w_t1, w_t2]
  rfl
set_option maxRecDepth 65536 in
theorem w_case : (Jvm.Cond.and given_1 narrow_1).before args0 about1 = true := by decide +kernel
theorem w_applies : (headSpec (Jvm.Cond.code x code maxLocals ret :: tables_1) room_1).applies x e0.platform about1 = true :=
  (Spec.applies_iff w_frames).mpr ⟨w_running, w_runnable, w_alone, w_named, w_hears, w_ripe, w_room, w_tables⟩
theorem atStart : AtStart classFile x code maxLocals ret World_1 tables_1 room_1 Calls_1 rest_1 Pre_1 launch0 p0 e0 about1 theMethod args0 below0 :=
  ⟨lists_1, trivial, launch0.admits_env _ _ _, launch0.least_env, fairChoices_fair.cas, fairChoices_fair.clock, w_frames, w_args, w_heap, w_applies, trivial, trivial, w_case⟩
end start1
theorem witness_1 : WitnessClaimed_1 := ⟨start1.p0, start1.e0, start1.about1, start1.theMethod, start1.args0, start1.below0, start1.atStart⟩
end Jvm.Pilot.@@N@@
