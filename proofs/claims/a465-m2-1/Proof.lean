import JvmDerived
import JvmDerived.Pilot.@@N@@Statement
import JvmDerived.Pilot.@@N@@Code
set_option linter.unusedVariables false
set_option linter.unusedSimpArgs false
namespace Jvm.RoadKit
open Sem ClassFile Op Lib Jvm.Stand Jvm.Free Jvm.LawKit
section New
variable {p : Program} {l : Launch} {e : Env} {R : Room} {s : State} {m : MethodId} {args : Array Value} {below : List Frame} {meth : Method} {c : Code} {T : State} {locs : List Loc} {cells slots : Nat}
theorem retI (X : Stand p l e R s m args below meth c T locs cells slots) (hx : p.tables.exec = Jvm.exec) {pc : Nat} {Ls : Array Slot} {z : Int32} {rest : List Value} (hret : meth.sig.returnType = some .int) (hd : decode c.code pc = .ok (.ireturn, 1)) {fs : List Frame}
    (hl : ∀ (f : JFrame) (acts : List Action), f.method = m → f.locked = none → f.entered = [] → (doReturn e (T.setTop f) acts (some (.int z))).1 = T.setFrames fs) : Steps p.tables e below (T.setTop (mkF m pc Ls (.int z :: rest))) (T.setFrames fs) := by
  have hm' : T.vm.method? m = some meth := X.method'
  have hn : narrow .int (.int z) = .int z := rfl
  show Steps p.tables e below (T.setTop { method := m, pc := pc, locals := Ls, stack := _ :: rest, locked := none }) _
  jvm_step X.here [X.here.top, hx, hd, hm', hret, hn]
  first | (intro acts; rw [hl _ acts rfl rfl rfl]) | rw [hl _ _ rfl rfl rfl]
  exact Steps.refl _
end New
end Jvm.RoadKit
namespace Jvm.Pilot.@@N@@
open Jvm Jvm.ClassFile Sem Op Lib Jvm.Free Jvm.Stand Jvm.LawKit Jvm.RoadKit Bundle Jvm.Pilot.@@N@@.Jvm.D
theorem own_sta_keep {Z : State} {h h' : Heap} {C n d : String} {v : Value} (F : Sta Z h C n d v) (K : Keep h h' []) : Sta Z h' C n d v := by
  obtain ⟨cf, i, k, f, st, cell, h1, h2, h3, h4, h5, h6, h7⟩ := F
  exact ⟨cf, i, k, f, st, cell, h1, h2, h3, h4, K.2.1 st cell h5 nin0, h6, h7⟩
theorem own_fldR {s : State} {args : Array Value} {t : Term} {C n d : String} {a : Addr} {v : Value} (ev : t.eval args s none [] s = some (.ref a)) (hf : (Term.field t C n d).eval args s none [] s = some v) : Fld s s.heap a C n d v := by
  rw [fld_at ev] at hf
  exact Fld.start hf
theorem own_eqR {s : State} {args : Array Value} {t u : Term} {y : Addr} (hf : (Cond.eq t u).value args s none s [] = some true) (hu : u.eval args s none [] s = some (.ref y)) : t.eval args s none [] s = some (.ref y) := by
  obtain ⟨x, y', h1, h2, -, -⟩ := cmp_v (Or.inl hf)
  cases hu.symm.trans h2
  rw [h1]
  cases x <;> simp [Cond.value, h1, hu] at hf ⊢
  exact hf
def own_ix (p : Int32) : Int32 := (p &&& (2147483647 : Int32)) % (27 : Int32)
theorem own_ixc (p : Int32) : ∃ n : Nat, n < 27 ∧ own_ix p = Int32.ofNat n := by
  have h1 : (p &&& (2147483647 : Int32)).toInt = p.toInt % (2 ^ 31 : Nat) := c_mask p 2147483647 31 (by decide) (by decide)
  have h2 := (c_irem (p &&& (2147483647 : Int32)) 27 27 (by decide)).1 (by omega)
  have h3 : (own_ix p).toInt = ((p &&& (2147483647 : Int32)) % (27 : Int32)).toInt := rfl
  refine ⟨(own_ix p).toInt.toNat, by omega, Int32.toInt_inj.mp ?_⟩
  rw [Int32.toInt_ofNat_of_lt (by omega)]
  omega
theorem d1_0 : decode prog_11_method_7_code 0 = .ok (.aload_n 0, 1) := by decide +kernel
theorem d1_1 : decode prog_11_method_7_code 1 = .ok (.getfield 133, 3) := by decide +kernel
theorem d1_4 : decode prog_11_method_7_code 4 = .ok (.ifnull 7, 3) := by decide +kernel
theorem d1_7 : decode prog_11_method_7_code 7 = .ok (.iconst 1, 1) := by decide +kernel
theorem d1_8 : decode prog_11_method_7_code 8 = .ok (.goto 4, 3) := by decide +kernel
theorem d1_12 : decode prog_11_method_7_code 12 = .ok (.ireturn, 1) := by decide +kernel
theorem pn_com_example_entente_entente_Option : plainName "com/example/entente/entente/Option" = true := by first | (simp [plainName, overriddenIn]; done) | decide +kernel
theorem ef_rmTr (m : MethodId) (x0 : Addr) : entryFrame m #[(.ref x0)] 1 = mkF m 0 #[.val (.ref x0)] [] := by first | (simp [entryFrame, mkF, argsToLocals, Value.category]; done) | rfl
def QrmTr (Z : State) (a1 : Addr) (u : Addr) (h0 : Heap) (n0 : Nat) (v : Option Value) (h : Heap) (L : List Loc) : Prop := v = some (.int (1 : Int32)) ∧ Fr n0 L ∧ h = h0
set_option maxRecDepth 65536 in
set_option maxHeartbeats 40000000 in
theorem rmTr (l : Launch) (Z : State) (a0 : Array Value) (hw : ∀ d ∈ tables_1, d.before a0 Z = true) (ws : List Jvm.Cond) (a1 : Addr) (u : Addr) (h0 : Heap) (n0 : Nat) (Z0 : n0 ≤ h0.size) (F1 : Fld Z h0 a1 "com/example/entente/entente/Option" "value" "Ljava/lang/String;" (.ref u)) :
    MetFree l (⟨"com/example/entente/entente/Option", "takesValue", "()Z"⟩ : MethodName) (head1 (Jvm.Cond.code (⟨"com/example/entente/entente/Option", "takesValue", "()Z"⟩ : MethodName) prog_11_method_7_code 1 (some .boolean) :: ws) ({ frames := 0, cells := 0, slots := 0, locals := 0 } : Room)) (fun a U => a = #[(.ref a1)] ∧ Z.Warmed39 U.vm ∧ U.heap = h0) (fun _ _ _ _ _ => True) (fun _ U o U' => ∃ v L, o = .returned v ∧ QrmTr Z a1 u h0 n0 v U'.heap L ∧ FrameEnd U o U' L ({ frames := 0, cells := 0, slots := 0, locals := 0 } : Room).cells ({ frames := 0, cells := 0, slots := 0, locals := 0 } : Room).slots) := by
  refine MetFree.of_bodySF (plainFor_of_name pn_com_example_entente_entente_Option) hisR ?_
  intro p e s m args below meth c s₁ Bd hml0 hP hK
  obtain ⟨rfl, hZ, hh⟩ := hP
  have hx := Bd.exec
  have hby := Bd.bytes
  have hml : c.maxLocals = 1 := hml0
  have hown : s.vm.findClass "com/example/entente/entente/Option" = some m.cls := findClass_of_methodNamed Bd.named
  have hnm := (name_of_methodNamed Bd.named Bd.method).1
  have X0 : Stand p l e ({ frames := 0, cells := 0, slots := 0, locals := 0 } : Room) s m #[(.ref a1)] below meth c s₁ [] 0 0 := Stand.of_body Bd
  have e0 : s₁.heap = h0 := by rw [← hh, Bd.state]; rfl
  have N0 := Fr.nil n0
  have pre0 : ∀ t, Steps p.tables e below (s₁.setTop (mkF m 0 #[.val (.ref a1)] [])) t → Steps p.tables e below (s₁.setTop (entryFrame m #[(.ref a1)] 1)) t := fun t k => castTop (ef_rmTr m a1) k
  obtain ⟨T1, X1, e1, st1⟩ := getF X0 hx hZ hown (host := "") (Or.inl (hw _ (List.mem_of_getElem? (i := 64) rfl))) Via.refl e0 F1 (g := (mkF m 1 #[.val (.ref a1)] [(.ref a1)])) rfl rfl (hb hby d1_1)
  obtain ⟨fs, hr, hrun, hended, hW, hsame⟩ := X1.leave (v := some (.int (1 : Int32))) (fun h => by rw [Bd.returns] at h; cases h)
  refine ⟨_, _, pre0 _ ?_, hrun, hended, _, _, rfl, ?_, ⟨_, rfl⟩, hW, hsame.mono (by decide) (by decide)⟩
  · show Steps p.tables e below (s₁.setTop (mkF m 0 #[.val (.ref a1)] [])) _
    refine XS.aloadN X0.here hx rfl (hb hby d1_0) rfl rfl ?_
    show Steps p.tables e below (s₁.setTop (mkF m 1 #[.val (.ref a1)] [(.ref a1)])) _
    refine st1 _ ?_
    show Steps p.tables e below (T1.setTop (mkF m 4 #[.val (.ref a1)] [(.ref u)])) _
    refine XS.ifnullNo X1.here hx rfl (hb hby d1_4) rfl ?_
    show Steps p.tables e below (T1.setTop (mkF m 7 #[.val (.ref a1)] [])) _
    refine XS.iconst X1.here hx rfl (hb hby d1_7) ?_
    show Steps p.tables e below (T1.setTop (mkF m 8 #[.val (.ref a1)] [(.int (1 : Int32))])) _
    refine XS.goto X1.here hx rfl (pc0 := 8) (pc' := 12) rfl (hb hby d1_8) (by decide) (by decide) ?_
    show Steps p.tables e below (T1.setTop (mkF m 12 #[.val (.ref a1)] [(.int (1 : Int32))])) _
    exact retN X1 hx (t := .boolean) Bd.returns (by simp) (hb hby d1_12) hr
  · show QrmTr Z a1 u h0 n0 _ T1.heap _
    rw [e1]
    exact ⟨rfl, N0, rfl⟩
theorem d2_0 : decode prog_11_method_10_code 0 = .ok (.aload_n 0, 1) := by decide +kernel
theorem d2_1 : decode prog_11_method_10_code 1 = .ok (.getfield 133, 3) := by decide +kernel
theorem d2_4 : decode prog_11_method_10_code 4 = .ok (.areturn, 1) := by decide +kernel
theorem ef_rmVr (m : MethodId) (x0 : Addr) : entryFrame m #[(.ref x0)] 1 = mkF m 0 #[.val (.ref x0)] [] := by first | (simp [entryFrame, mkF, argsToLocals, Value.category]; done) | rfl
def QrmVr (Z : State) (a1 : Addr) (u : Addr) (h0 : Heap) (n0 : Nat) (v : Option Value) (h : Heap) (L : List Loc) : Prop := v = some (.ref u) ∧ Fr n0 L ∧ h = h0
set_option maxRecDepth 65536 in
set_option maxHeartbeats 40000000 in
theorem rmVr (l : Launch) (Z : State) (a0 : Array Value) (hw : ∀ d ∈ tables_1, d.before a0 Z = true) (ws : List Jvm.Cond) (a1 : Addr) (u : Addr) (h0 : Heap) (n0 : Nat) (Z0 : n0 ≤ h0.size) (F1 : Fld Z h0 a1 "com/example/entente/entente/Option" "value" "Ljava/lang/String;" (.ref u)) :
    MetFree l (⟨"com/example/entente/entente/Option", "value", "()Ljava/lang/String;"⟩ : MethodName) (head1 (Jvm.Cond.code (⟨"com/example/entente/entente/Option", "value", "()Ljava/lang/String;"⟩ : MethodName) prog_11_method_10_code 1 (some (.object "java/lang/String")) :: ws) ({ frames := 0, cells := 0, slots := 0, locals := 0 } : Room)) (fun a U => a = #[(.ref a1)] ∧ Z.Warmed39 U.vm ∧ U.heap = h0) (fun _ _ _ _ _ => True) (fun _ U o U' => ∃ v L, o = .returned v ∧ QrmVr Z a1 u h0 n0 v U'.heap L ∧ FrameEnd U o U' L ({ frames := 0, cells := 0, slots := 0, locals := 0 } : Room).cells ({ frames := 0, cells := 0, slots := 0, locals := 0 } : Room).slots) := by
  refine MetFree.of_bodySF (plainFor_of_name pn_com_example_entente_entente_Option) hisR ?_
  intro p e s m args below meth c s₁ Bd hml0 hP hK
  obtain ⟨rfl, hZ, hh⟩ := hP
  have hx := Bd.exec
  have hby := Bd.bytes
  have hml : c.maxLocals = 1 := hml0
  have hown : s.vm.findClass "com/example/entente/entente/Option" = some m.cls := findClass_of_methodNamed Bd.named
  have hnm := (name_of_methodNamed Bd.named Bd.method).1
  have X0 : Stand p l e ({ frames := 0, cells := 0, slots := 0, locals := 0 } : Room) s m #[(.ref a1)] below meth c s₁ [] 0 0 := Stand.of_body Bd
  have e0 : s₁.heap = h0 := by rw [← hh, Bd.state]; rfl
  have N0 := Fr.nil n0
  have pre0 : ∀ t, Steps p.tables e below (s₁.setTop (mkF m 0 #[.val (.ref a1)] [])) t → Steps p.tables e below (s₁.setTop (entryFrame m #[(.ref a1)] 1)) t := fun t k => castTop (ef_rmVr m a1) k
  obtain ⟨T1, X1, e1, st1⟩ := getF X0 hx hZ hown (host := "") (Or.inl (hw _ (List.mem_of_getElem? (i := 64) rfl))) Via.refl e0 F1 (g := (mkF m 1 #[.val (.ref a1)] [(.ref a1)])) rfl rfl (hb hby d2_1)
  obtain ⟨fs, hr, hrun, hended, hW, hsame⟩ := X1.leave (v := some (.ref u)) (fun h => by rw [Bd.returns] at h; cases h)
  refine ⟨_, _, pre0 _ ?_, hrun, hended, _, _, rfl, ?_, ⟨_, rfl⟩, hW, hsame.mono (by decide) (by decide)⟩
  · show Steps p.tables e below (s₁.setTop (mkF m 0 #[.val (.ref a1)] [])) _
    refine XS.aloadN X0.here hx rfl (hb hby d2_0) rfl rfl ?_
    show Steps p.tables e below (s₁.setTop (mkF m 1 #[.val (.ref a1)] [(.ref a1)])) _
    refine st1 _ ?_
    show Steps p.tables e below (T1.setTop (mkF m 4 #[.val (.ref a1)] [(.ref u)])) _
    jvm_step X1.here [X1.here.top, hx, (hb hby d2_4), X1.method', Bd.returns, Value.isRef, FieldType.isReference]
    first | (intro acts; rw [hr _ acts rfl rfl rfl]) | rw [hr _ _ rfl rfl rfl]
    exact Steps.refl _
  · show QrmVr Z a1 u h0 n0 _ T1.heap _
    rw [e1]
    exact ⟨rfl, N0, rfl⟩
theorem d1_11 : decode prog_11_method_7_code 11 = .ok (.iconst 0, 1) := by decide +kernel
theorem ef_rmTn (m : MethodId) (x0 : Addr) : entryFrame m #[(.ref x0)] 1 = mkF m 0 #[.val (.ref x0)] [] := by first | (simp [entryFrame, mkF, argsToLocals, Value.category]; done) | rfl
def QrmTn (Z : State) (a1 : Addr)  (h0 : Heap) (n0 : Nat) (v : Option Value) (h : Heap) (L : List Loc) : Prop := v = some (.int (0 : Int32)) ∧ Fr n0 L ∧ h = h0
set_option maxRecDepth 65536 in
set_option maxHeartbeats 40000000 in
theorem rmTn (l : Launch) (Z : State) (a0 : Array Value) (hw : ∀ d ∈ tables_1, d.before a0 Z = true) (ws : List Jvm.Cond) (a1 : Addr)  (h0 : Heap) (n0 : Nat) (Z0 : n0 ≤ h0.size) (F1 : Fld Z h0 a1 "com/example/entente/entente/Option" "value" "Ljava/lang/String;" .null) :
    MetFree l (⟨"com/example/entente/entente/Option", "takesValue", "()Z"⟩ : MethodName) (head1 (Jvm.Cond.code (⟨"com/example/entente/entente/Option", "takesValue", "()Z"⟩ : MethodName) prog_11_method_7_code 1 (some .boolean) :: ws) ({ frames := 0, cells := 0, slots := 0, locals := 0 } : Room)) (fun a U => a = #[(.ref a1)] ∧ Z.Warmed39 U.vm ∧ U.heap = h0) (fun _ _ _ _ _ => True) (fun _ U o U' => ∃ v L, o = .returned v ∧ QrmTn Z a1  h0 n0 v U'.heap L ∧ FrameEnd U o U' L ({ frames := 0, cells := 0, slots := 0, locals := 0 } : Room).cells ({ frames := 0, cells := 0, slots := 0, locals := 0 } : Room).slots) := by
  refine MetFree.of_bodySF (plainFor_of_name pn_com_example_entente_entente_Option) hisR ?_
  intro p e s m args below meth c s₁ Bd hml0 hP hK
  obtain ⟨rfl, hZ, hh⟩ := hP
  have hx := Bd.exec
  have hby := Bd.bytes
  have hml : c.maxLocals = 1 := hml0
  have hown : s.vm.findClass "com/example/entente/entente/Option" = some m.cls := findClass_of_methodNamed Bd.named
  have hnm := (name_of_methodNamed Bd.named Bd.method).1
  have X0 : Stand p l e ({ frames := 0, cells := 0, slots := 0, locals := 0 } : Room) s m #[(.ref a1)] below meth c s₁ [] 0 0 := Stand.of_body Bd
  have e0 : s₁.heap = h0 := by rw [← hh, Bd.state]; rfl
  have N0 := Fr.nil n0
  have pre0 : ∀ t, Steps p.tables e below (s₁.setTop (mkF m 0 #[.val (.ref a1)] [])) t → Steps p.tables e below (s₁.setTop (entryFrame m #[(.ref a1)] 1)) t := fun t k => castTop (ef_rmTn m a1) k
  obtain ⟨T1, X1, e1, st1⟩ := getF X0 hx hZ hown (host := "") (Or.inl (hw _ (List.mem_of_getElem? (i := 64) rfl))) Via.refl e0 F1 (g := (mkF m 1 #[.val (.ref a1)] [(.ref a1)])) rfl rfl (hb hby d1_1)
  obtain ⟨fs, hr, hrun, hended, hW, hsame⟩ := X1.leave (v := some (.int (0 : Int32))) (fun h => by rw [Bd.returns] at h; cases h)
  refine ⟨_, _, pre0 _ ?_, hrun, hended, _, _, rfl, ?_, ⟨_, rfl⟩, hW, hsame.mono (by decide) (by decide)⟩
  · show Steps p.tables e below (s₁.setTop (mkF m 0 #[.val (.ref a1)] [])) _
    refine XS.aloadN X0.here hx rfl (hb hby d1_0) rfl rfl ?_
    show Steps p.tables e below (s₁.setTop (mkF m 1 #[.val (.ref a1)] [(.ref a1)])) _
    refine st1 _ ?_
    show Steps p.tables e below (T1.setTop (mkF m 4 #[.val (.ref a1)] [.null])) _
    refine XS.ifnullYes X1.here hx rfl (pc0 := 4) (pc' := 11) rfl (hb hby d1_4) rfl (by decide) (by decide) ?_
    show Steps p.tables e below (T1.setTop (mkF m 11 #[.val (.ref a1)] [])) _
    refine XS.iconst X1.here hx rfl (hb hby d1_11) ?_
    show Steps p.tables e below (T1.setTop (mkF m 12 #[.val (.ref a1)] [(.int (0 : Int32))])) _
    exact retN X1 hx (t := .boolean) Bd.returns (by simp) (hb hby d1_12) hr
  · show QrmTn Z a1  h0 n0 _ T1.heap _
    rw [e1]
    exact ⟨rfl, N0, rfl⟩
theorem ef_rmVn (m : MethodId) (x0 : Addr) : entryFrame m #[(.ref x0)] 1 = mkF m 0 #[.val (.ref x0)] [] := by first | (simp [entryFrame, mkF, argsToLocals, Value.category]; done) | rfl
def QrmVn (Z : State) (a1 : Addr)  (h0 : Heap) (n0 : Nat) (v : Option Value) (h : Heap) (L : List Loc) : Prop := v = some .null ∧ Fr n0 L ∧ h = h0
set_option maxRecDepth 65536 in
set_option maxHeartbeats 40000000 in
theorem rmVn (l : Launch) (Z : State) (a0 : Array Value) (hw : ∀ d ∈ tables_1, d.before a0 Z = true) (ws : List Jvm.Cond) (a1 : Addr)  (h0 : Heap) (n0 : Nat) (Z0 : n0 ≤ h0.size) (F1 : Fld Z h0 a1 "com/example/entente/entente/Option" "value" "Ljava/lang/String;" .null) :
    MetFree l (⟨"com/example/entente/entente/Option", "value", "()Ljava/lang/String;"⟩ : MethodName) (head1 (Jvm.Cond.code (⟨"com/example/entente/entente/Option", "value", "()Ljava/lang/String;"⟩ : MethodName) prog_11_method_10_code 1 (some (.object "java/lang/String")) :: ws) ({ frames := 0, cells := 0, slots := 0, locals := 0 } : Room)) (fun a U => a = #[(.ref a1)] ∧ Z.Warmed39 U.vm ∧ U.heap = h0) (fun _ _ _ _ _ => True) (fun _ U o U' => ∃ v L, o = .returned v ∧ QrmVn Z a1  h0 n0 v U'.heap L ∧ FrameEnd U o U' L ({ frames := 0, cells := 0, slots := 0, locals := 0 } : Room).cells ({ frames := 0, cells := 0, slots := 0, locals := 0 } : Room).slots) := by
  refine MetFree.of_bodySF (plainFor_of_name pn_com_example_entente_entente_Option) hisR ?_
  intro p e s m args below meth c s₁ Bd hml0 hP hK
  obtain ⟨rfl, hZ, hh⟩ := hP
  have hx := Bd.exec
  have hby := Bd.bytes
  have hml : c.maxLocals = 1 := hml0
  have hown : s.vm.findClass "com/example/entente/entente/Option" = some m.cls := findClass_of_methodNamed Bd.named
  have hnm := (name_of_methodNamed Bd.named Bd.method).1
  have X0 : Stand p l e ({ frames := 0, cells := 0, slots := 0, locals := 0 } : Room) s m #[(.ref a1)] below meth c s₁ [] 0 0 := Stand.of_body Bd
  have e0 : s₁.heap = h0 := by rw [← hh, Bd.state]; rfl
  have N0 := Fr.nil n0
  have pre0 : ∀ t, Steps p.tables e below (s₁.setTop (mkF m 0 #[.val (.ref a1)] [])) t → Steps p.tables e below (s₁.setTop (entryFrame m #[(.ref a1)] 1)) t := fun t k => castTop (ef_rmVn m a1) k
  obtain ⟨T1, X1, e1, st1⟩ := getF X0 hx hZ hown (host := "") (Or.inl (hw _ (List.mem_of_getElem? (i := 64) rfl))) Via.refl e0 F1 (g := (mkF m 1 #[.val (.ref a1)] [(.ref a1)])) rfl rfl (hb hby d2_1)
  obtain ⟨fs, hr, hrun, hended, hW, hsame⟩ := X1.leave (v := some .null) (fun h => by rw [Bd.returns] at h; cases h)
  refine ⟨_, _, pre0 _ ?_, hrun, hended, _, _, rfl, ?_, ⟨_, rfl⟩, hW, hsame.mono (by decide) (by decide)⟩
  · show Steps p.tables e below (s₁.setTop (mkF m 0 #[.val (.ref a1)] [])) _
    refine XS.aloadN X0.here hx rfl (hb hby d2_0) rfl rfl ?_
    show Steps p.tables e below (s₁.setTop (mkF m 1 #[.val (.ref a1)] [(.ref a1)])) _
    refine st1 _ ?_
    show Steps p.tables e below (T1.setTop (mkF m 4 #[.val (.ref a1)] [.null])) _
    jvm_step X1.here [X1.here.top, hx, (hb hby d2_4), X1.method', Bd.returns, Value.isRef, FieldType.isReference]
    first | (intro acts; rw [hr _ acts rfl rfl rfl]) | rw [hr _ _ rfl rfl rfl]
    exact Steps.refl _
  · show QrmVn Z a1  h0 n0 _ T1.heap _
    rw [e1]
    exact ⟨rfl, N0, rfl⟩
set_option maxRecDepth 65536 in
set_option maxHeartbeats 40000000 in
theorem own_pre {p : Program} {l : Launch} {e : Env} {s : State} {m : MethodId} {args : Array Value} {below : List Frame} {meth : Method} {c : Code} {T0 : State} {locs : List Loc} {Z : State} {a0 : Array Value} {h0 : Heap} {n0 : Nat} (p1 : Int32) (r0 r1 r2 r3 r4 r5 r6 r7 r8 r9 r10 r11 r12 r13 r14 r15 r16 r17 r18 r19 r20 r21 r22 r23 r24 r25 r26 : Addr)
    (X0 : Stand p l e room_1 s m args below meth c T0 locs 0 0) (hx : p.tables.exec = Jvm.exec) (hZ : Z.Warmed39 s.vm) (hw : ∀ d ∈ tables_1, d.before a0 Z = true) (hby : c.code = code) (hml : c.maxLocals = 6) (hown : s.vm.findClass "com/example/entente/entente/OptionTakesValuePinLaw" = some m.cls) (e0 : T0.heap = h0) (Z0 : n0 ≤ h0.size) (N0 : Fr n0 locs) (S0_ : Sta Z h0 "com/example/entente/entente/Option" "ALGORITHM" "Lcom/example/entente/entente/Option;" (.ref r0)) (E0_ : Exa Z h0 r0 "com/example/entente/entente/Option") (S1_ : Sta Z h0 "com/example/entente/entente/Option" "NOGOOD_LIMIT" "Lcom/example/entente/entente/Option;" (.ref r1)) (E1_ : Exa Z h0 r1 "com/example/entente/entente/Option") (S2_ : Sta Z h0 "com/example/entente/entente/Option" "PROCESSES" "Lcom/example/entente/entente/Option;" (.ref r2)) (E2_ : Exa Z h0 r2 "com/example/entente/entente/Option") (S3_ : Sta Z h0 "com/example/entente/entente/Option" "VALUE_ORDER" "Lcom/example/entente/entente/Option;" (.ref r3)) (E3_ : Exa Z h0 r3 "com/example/entente/entente/Option") (S4_ : Sta Z h0 "com/example/entente/entente/Option" "MAX_CYCLES" "Lcom/example/entente/entente/Option;" (.ref r4)) (E4_ : Exa Z h0 r4 "com/example/entente/entente/Option") (S5_ : Sta Z h0 "com/example/entente/entente/Option" "SEED" "Lcom/example/entente/entente/Option;" (.ref r5)) (E5_ : Exa Z h0 r5 "com/example/entente/entente/Option") (S6_ : Sta Z h0 "com/example/entente/entente/Option" "INITIAL" "Lcom/example/entente/entente/Option;" (.ref r6)) (E6_ : Exa Z h0 r6 "com/example/entente/entente/Option") (S7_ : Sta Z h0 "com/example/entente/entente/Option" "TRACE" "Lcom/example/entente/entente/Option;" (.ref r7)) (E7_ : Exa Z h0 r7 "com/example/entente/entente/Option") (S8_ : Sta Z h0 "com/example/entente/entente/Option" "FILTER" "Lcom/example/entente/entente/Option;" (.ref r8)) (E8_ : Exa Z h0 r8 "com/example/entente/entente/Option") (S9_ : Sta Z h0 "com/example/entente/entente/Option" "COLOURS" "Lcom/example/entente/entente/Option;" (.ref r9)) (E9_ : Exa Z h0 r9 "com/example/entente/entente/Option") (S10_ : Sta Z h0 "com/example/entente/entente/Option" "TRANSPORT" "Lcom/example/entente/entente/Option;" (.ref r10)) (E10_ : Exa Z h0 r10 "com/example/entente/entente/Option") (S11_ : Sta Z h0 "com/example/entente/entente/Option" "PORT_BASE" "Lcom/example/entente/entente/Option;" (.ref r11)) (E11_ : Exa Z h0 r11 "com/example/entente/entente/Option") (S12_ : Sta Z h0 "com/example/entente/entente/Option" "DELAY_MS" "Lcom/example/entente/entente/Option;" (.ref r12)) (E12_ : Exa Z h0 r12 "com/example/entente/entente/Option") (S13_ : Sta Z h0 "com/example/entente/entente/Option" "MAX_SECONDS" "Lcom/example/entente/entente/Option;" (.ref r13)) (E13_ : Exa Z h0 r13 "com/example/entente/entente/Option") (S14_ : Sta Z h0 "com/example/entente/entente/Option" "NAME" "Lcom/example/entente/entente/Option;" (.ref r14)) (E14_ : Exa Z h0 r14 "com/example/entente/entente/Option") (S15_ : Sta Z h0 "com/example/entente/entente/Option" "INDEX" "Lcom/example/entente/entente/Option;" (.ref r15)) (E15_ : Exa Z h0 r15 "com/example/entente/entente/Option") (S16_ : Sta Z h0 "com/example/entente/entente/Option" "COORDINATOR" "Lcom/example/entente/entente/Option;" (.ref r16)) (E16_ : Exa Z h0 r16 "com/example/entente/entente/Option") (S17_ : Sta Z h0 "com/example/entente/entente/Option" "N" "Lcom/example/entente/entente/Option;" (.ref r17)) (E17_ : Exa Z h0 r17 "com/example/entente/entente/Option") (S18_ : Sta Z h0 "com/example/entente/entente/Option" "D" "Lcom/example/entente/entente/Option;" (.ref r18)) (E18_ : Exa Z h0 r18 "com/example/entente/entente/Option") (S19_ : Sta Z h0 "com/example/entente/entente/Option" "P1" "Lcom/example/entente/entente/Option;" (.ref r19)) (E19_ : Exa Z h0 r19 "com/example/entente/entente/Option") (S20_ : Sta Z h0 "com/example/entente/entente/Option" "P2" "Lcom/example/entente/entente/Option;" (.ref r20)) (E20_ : Exa Z h0 r20 "com/example/entente/entente/Option") (S21_ : Sta Z h0 "com/example/entente/entente/Option" "NODES" "Lcom/example/entente/entente/Option;" (.ref r21)) (E21_ : Exa Z h0 r21 "com/example/entente/entente/Option") (S22_ : Sta Z h0 "com/example/entente/entente/Option" "EDGES" "Lcom/example/entente/entente/Option;" (.ref r22)) (E22_ : Exa Z h0 r22 "com/example/entente/entente/Option") (S23_ : Sta Z h0 "com/example/entente/entente/Option" "FAMILY" "Lcom/example/entente/entente/Option;" (.ref r23)) (E23_ : Exa Z h0 r23 "com/example/entente/entente/Option") (S24_ : Sta Z h0 "com/example/entente/entente/Option" "INSTANCES" "Lcom/example/entente/entente/Option;" (.ref r24)) (E24_ : Exa Z h0 r24 "com/example/entente/entente/Option") (S25_ : Sta Z h0 "com/example/entente/entente/Option" "GOAL" "Lcom/example/entente/entente/Option;" (.ref r25)) (E25_ : Exa Z h0 r25 "com/example/entente/entente/Option") (S26_ : Sta Z h0 "com/example/entente/entente/Option" "HELP" "Lcom/example/entente/entente/Option;" (.ref r26)) (E26_ : Exa Z h0 r26 "com/example/entente/entente/Option") :
    ∃ (T' : State) (L' : List Loc) (h' : Heap) (b : Addr) (kA : ClassId), Stand p l e room_1 s m args below meth c T' L' 1 27 ∧ Fr n0 L' ∧ T'.heap = h' ∧ n0 ≤ h'.size ∧ Keep h0 h' [] ∧ Arv Z h' b kA (.object "com/example/entente/entente/Option") (27 : Int32) [(.ref r0), (.ref r1), (.ref r2), (.ref r3), (.ref r4), (.ref r5), (.ref r6), (.ref r7), (.ref r8), (.ref r9), (.ref r10), (.ref r11), (.ref r12), (.ref r13), (.ref r14), (.ref r15), (.ref r16), (.ref r17), (.ref r18), (.ref r19), (.ref r20), (.ref r21), (.ref r22), (.ref r23), (.ref r24), (.ref r25), (.ref r26)] .null ∧ ∀ target, Steps p.tables e below (T'.setTop (mkF m 197 #[.val (.int p1), .val (.ref b), .val (.int (own_ix p1)), .unset, .unset, .unset] [])) target → Steps p.tables e below (T0.setTop (mkF m 0 #[.val (.int p1), .unset, .unset, .unset, .unset, .unset] [])) target := by
  obtain ⟨T1, h1, k1, X1, e1, E1, A1, O1, st1⟩ := newR X0 hx hZ hown (hw _ (List.mem_of_getElem? (i := 0) rfl)) (hw _ (List.mem_of_getElem? (i := 1) rfl)) e0 (g := (mkF m 2 #[.val (.int p1), .unset, .unset, .unset, .unset, .unset] [(.int (27 : Int32))])) rfl (hb hby at_2) rfl (by decide) (cap := 27) (by decide) (by decide) (by decide) (by decide)
  obtain ⟨b1, g1⟩ : ∃ z, z = h0.size := ⟨_, rfl⟩
  rw [← g1] at A1 st1
  have g_b : n0 ≤ b1 := Nat.le_trans Z0 (Nat.le_of_eq g1.symm)
  have sz_b : h0.size ≤ b1 := Nat.le_of_eq g1.symm
  have Kp0 : Keep h0 h1 [] := (Keep.refl h0 []).ext E1
  have V0 : Arv Z h1 b1 k1 (.object "com/example/entente/entente/Option") (27 : Int32) [.null, .null, .null, .null, .null, .null, .null, .null, .null, .null, .null, .null, .null, .null, .null, .null, .null, .null, .null, .null, .null, .null, .null, .null, .null, .null, .null] .null := (Arv.new A1 (by decide)).pad (pad_rep [] .null 27)
  obtain ⟨T2, X2, e2, st2⟩ := getS2 X1 hx hZ hown (host := "") (Or.inl (hw _ (List.mem_of_getElem? (i := 2) rfl))) Via.refl e1 (own_sta_keep S0_ Kp0) (g := (mkF m 7 #[.val (.int p1), .unset, .unset, .unset, .unset, .unset] [(.int (0 : Int32)), (.ref b1), (.ref b1)])) rfl (hb hby at_7)
  obtain ⟨cl0, Ar0, q0, Sz0, M0, Hs0, G0⟩ := V0
  have hin0 : ¬ ((0 : Int32) < 0 ∨ cl0.slots.size ≤ ((0 : Int32)).toNatClampNeg) := inb_of Sz0 ⟨by decide, by decide⟩
  obtain ⟨T3, h3, X3, e3, W3, st3⟩ := stR X2 hx hZ e2 Ar0 (j := (0 : Int32)) hin0 rfl (Sto.ofV Ar0 q0 O1 (Ins.self (E0_.keep Kp0))) (g := (mkF m 10 #[.val (.int p1), .unset, .unset, .unset, .unset, .unset] [(.ref r0), (.int (0 : Int32)), (.ref b1), (.ref b1)])) rfl rfl (hb hby at_10)
  have Kp1 : Keep h0 h3 [] := Kp0.wr W3 (Or.inr sz_b)
  have N3 := Fr.snoc X3 N0 g_b
  have V1 : Arv Z h3 b1 k1 (.object "com/example/entente/entente/Option") (27 : Int32) [(.ref r0), .null, .null, .null, .null, .null, .null, .null, .null, .null, .null, .null, .null, .null, .null, .null, .null, .null, .null, .null, .null, .null, .null, .null, .null, .null, .null] .null := Arv.set Ar0 q0 Sz0 M0 Hs0 G0 rfl W3 0 rfl (Nat.le_of_ble_eq_true rfl)
  obtain ⟨T4, X4, e4, st4⟩ := getS2 X3 hx hZ hown (host := "") (Or.inl (hw _ (List.mem_of_getElem? (i := 6) rfl))) Via.refl e3 (own_sta_keep S1_ Kp1) (g := (mkF m 13 #[.val (.int p1), .unset, .unset, .unset, .unset, .unset] [(.int (1 : Int32)), (.ref b1), (.ref b1)])) rfl (hb hby at_13)
  obtain ⟨cl1, Ar1, q1, Sz1, M1, Hs1, G1⟩ := V1
  have hin1 : ¬ ((1 : Int32) < 0 ∨ cl1.slots.size ≤ ((1 : Int32)).toNatClampNeg) := inb_of Sz1 ⟨by decide, by decide⟩
  obtain ⟨T5, h5, X5, e5, W5, st5⟩ := stR X4 hx hZ e4 Ar1 (j := (1 : Int32)) hin1 rfl (Sto.ofV Ar1 q1 O1 (Ins.self (E1_.keep Kp1))) (g := (mkF m 16 #[.val (.int p1), .unset, .unset, .unset, .unset, .unset] [(.ref r1), (.int (1 : Int32)), (.ref b1), (.ref b1)])) rfl rfl (hb hby at_16)
  have Kp2 : Keep h0 h5 [] := Kp1.wr W5 (Or.inr sz_b)
  have N5 := Fr.snoc X5 N3 g_b
  have V2 : Arv Z h5 b1 k1 (.object "com/example/entente/entente/Option") (27 : Int32) [(.ref r0), (.ref r1), .null, .null, .null, .null, .null, .null, .null, .null, .null, .null, .null, .null, .null, .null, .null, .null, .null, .null, .null, .null, .null, .null, .null, .null, .null] .null := Arv.set Ar1 q1 Sz1 M1 Hs1 G1 rfl W5 1 rfl (Nat.le_of_ble_eq_true rfl)
  obtain ⟨T6, X6, e6, st6⟩ := getS2 X5 hx hZ hown (host := "") (Or.inl (hw _ (List.mem_of_getElem? (i := 8) rfl))) Via.refl e5 (own_sta_keep S2_ Kp2) (g := (mkF m 19 #[.val (.int p1), .unset, .unset, .unset, .unset, .unset] [(.int (2 : Int32)), (.ref b1), (.ref b1)])) rfl (hb hby at_19)
  obtain ⟨cl2, Ar2, q2, Sz2, M2, Hs2, G2⟩ := V2
  have hin2 : ¬ ((2 : Int32) < 0 ∨ cl2.slots.size ≤ ((2 : Int32)).toNatClampNeg) := inb_of Sz2 ⟨by decide, by decide⟩
  obtain ⟨T7, h7, X7, e7, W7, st7⟩ := stR X6 hx hZ e6 Ar2 (j := (2 : Int32)) hin2 rfl (Sto.ofV Ar2 q2 O1 (Ins.self (E2_.keep Kp2))) (g := (mkF m 22 #[.val (.int p1), .unset, .unset, .unset, .unset, .unset] [(.ref r2), (.int (2 : Int32)), (.ref b1), (.ref b1)])) rfl rfl (hb hby at_22)
  have Kp3 : Keep h0 h7 [] := Kp2.wr W7 (Or.inr sz_b)
  have N7 := Fr.snoc X7 N5 g_b
  have V3 : Arv Z h7 b1 k1 (.object "com/example/entente/entente/Option") (27 : Int32) [(.ref r0), (.ref r1), (.ref r2), .null, .null, .null, .null, .null, .null, .null, .null, .null, .null, .null, .null, .null, .null, .null, .null, .null, .null, .null, .null, .null, .null, .null, .null] .null := Arv.set Ar2 q2 Sz2 M2 Hs2 G2 rfl W7 2 rfl (Nat.le_of_ble_eq_true rfl)
  obtain ⟨T8, X8, e8, st8⟩ := getS2 X7 hx hZ hown (host := "") (Or.inl (hw _ (List.mem_of_getElem? (i := 10) rfl))) Via.refl e7 (own_sta_keep S3_ Kp3) (g := (mkF m 25 #[.val (.int p1), .unset, .unset, .unset, .unset, .unset] [(.int (3 : Int32)), (.ref b1), (.ref b1)])) rfl (hb hby at_25)
  obtain ⟨cl3, Ar3, q3, Sz3, M3, Hs3, G3⟩ := V3
  have hin3 : ¬ ((3 : Int32) < 0 ∨ cl3.slots.size ≤ ((3 : Int32)).toNatClampNeg) := inb_of Sz3 ⟨by decide, by decide⟩
  obtain ⟨T9, h9, X9, e9, W9, st9⟩ := stR X8 hx hZ e8 Ar3 (j := (3 : Int32)) hin3 rfl (Sto.ofV Ar3 q3 O1 (Ins.self (E3_.keep Kp3))) (g := (mkF m 28 #[.val (.int p1), .unset, .unset, .unset, .unset, .unset] [(.ref r3), (.int (3 : Int32)), (.ref b1), (.ref b1)])) rfl rfl (hb hby at_28)
  have Kp4 : Keep h0 h9 [] := Kp3.wr W9 (Or.inr sz_b)
  have N9 := Fr.snoc X9 N7 g_b
  have V4 : Arv Z h9 b1 k1 (.object "com/example/entente/entente/Option") (27 : Int32) [(.ref r0), (.ref r1), (.ref r2), (.ref r3), .null, .null, .null, .null, .null, .null, .null, .null, .null, .null, .null, .null, .null, .null, .null, .null, .null, .null, .null, .null, .null, .null, .null] .null := Arv.set Ar3 q3 Sz3 M3 Hs3 G3 rfl W9 3 rfl (Nat.le_of_ble_eq_true rfl)
  obtain ⟨T10, X10, e10, st10⟩ := getS2 X9 hx hZ hown (host := "") (Or.inl (hw _ (List.mem_of_getElem? (i := 12) rfl))) Via.refl e9 (own_sta_keep S4_ Kp4) (g := (mkF m 31 #[.val (.int p1), .unset, .unset, .unset, .unset, .unset] [(.int (4 : Int32)), (.ref b1), (.ref b1)])) rfl (hb hby at_31)
  obtain ⟨cl4, Ar4, q4, Sz4, M4, Hs4, G4⟩ := V4
  have hin4 : ¬ ((4 : Int32) < 0 ∨ cl4.slots.size ≤ ((4 : Int32)).toNatClampNeg) := inb_of Sz4 ⟨by decide, by decide⟩
  obtain ⟨T11, h11, X11, e11, W11, st11⟩ := stR X10 hx hZ e10 Ar4 (j := (4 : Int32)) hin4 rfl (Sto.ofV Ar4 q4 O1 (Ins.self (E4_.keep Kp4))) (g := (mkF m 34 #[.val (.int p1), .unset, .unset, .unset, .unset, .unset] [(.ref r4), (.int (4 : Int32)), (.ref b1), (.ref b1)])) rfl rfl (hb hby at_34)
  have Kp5 : Keep h0 h11 [] := Kp4.wr W11 (Or.inr sz_b)
  have N11 := Fr.snoc X11 N9 g_b
  have V5 : Arv Z h11 b1 k1 (.object "com/example/entente/entente/Option") (27 : Int32) [(.ref r0), (.ref r1), (.ref r2), (.ref r3), (.ref r4), .null, .null, .null, .null, .null, .null, .null, .null, .null, .null, .null, .null, .null, .null, .null, .null, .null, .null, .null, .null, .null, .null] .null := Arv.set Ar4 q4 Sz4 M4 Hs4 G4 rfl W11 4 rfl (Nat.le_of_ble_eq_true rfl)
  obtain ⟨T12, X12, e12, st12⟩ := getS2 X11 hx hZ hown (host := "") (Or.inl (hw _ (List.mem_of_getElem? (i := 14) rfl))) Via.refl e11 (own_sta_keep S5_ Kp5) (g := (mkF m 37 #[.val (.int p1), .unset, .unset, .unset, .unset, .unset] [(.int (5 : Int32)), (.ref b1), (.ref b1)])) rfl (hb hby at_37)
  obtain ⟨cl5, Ar5, q5, Sz5, M5, Hs5, G5⟩ := V5
  have hin5 : ¬ ((5 : Int32) < 0 ∨ cl5.slots.size ≤ ((5 : Int32)).toNatClampNeg) := inb_of Sz5 ⟨by decide, by decide⟩
  obtain ⟨T13, h13, X13, e13, W13, st13⟩ := stR X12 hx hZ e12 Ar5 (j := (5 : Int32)) hin5 rfl (Sto.ofV Ar5 q5 O1 (Ins.self (E5_.keep Kp5))) (g := (mkF m 40 #[.val (.int p1), .unset, .unset, .unset, .unset, .unset] [(.ref r5), (.int (5 : Int32)), (.ref b1), (.ref b1)])) rfl rfl (hb hby at_40)
  have Kp6 : Keep h0 h13 [] := Kp5.wr W13 (Or.inr sz_b)
  have N13 := Fr.snoc X13 N11 g_b
  have V6 : Arv Z h13 b1 k1 (.object "com/example/entente/entente/Option") (27 : Int32) [(.ref r0), (.ref r1), (.ref r2), (.ref r3), (.ref r4), (.ref r5), .null, .null, .null, .null, .null, .null, .null, .null, .null, .null, .null, .null, .null, .null, .null, .null, .null, .null, .null, .null, .null] .null := Arv.set Ar5 q5 Sz5 M5 Hs5 G5 rfl W13 5 rfl (Nat.le_of_ble_eq_true rfl)
  obtain ⟨T14, X14, e14, st14⟩ := getS2 X13 hx hZ hown (host := "") (Or.inl (hw _ (List.mem_of_getElem? (i := 16) rfl))) Via.refl e13 (own_sta_keep S6_ Kp6) (g := (mkF m 44 #[.val (.int p1), .unset, .unset, .unset, .unset, .unset] [(.int (6 : Int32)), (.ref b1), (.ref b1)])) rfl (hb hby at_44)
  obtain ⟨cl6, Ar6, q6, Sz6, M6, Hs6, G6⟩ := V6
  have hin6 : ¬ ((6 : Int32) < 0 ∨ cl6.slots.size ≤ ((6 : Int32)).toNatClampNeg) := inb_of Sz6 ⟨by decide, by decide⟩
  obtain ⟨T15, h15, X15, e15, W15, st15⟩ := stR X14 hx hZ e14 Ar6 (j := (6 : Int32)) hin6 rfl (Sto.ofV Ar6 q6 O1 (Ins.self (E6_.keep Kp6))) (g := (mkF m 47 #[.val (.int p1), .unset, .unset, .unset, .unset, .unset] [(.ref r6), (.int (6 : Int32)), (.ref b1), (.ref b1)])) rfl rfl (hb hby at_47)
  have Kp7 : Keep h0 h15 [] := Kp6.wr W15 (Or.inr sz_b)
  have N15 := Fr.snoc X15 N13 g_b
  have V7 : Arv Z h15 b1 k1 (.object "com/example/entente/entente/Option") (27 : Int32) [(.ref r0), (.ref r1), (.ref r2), (.ref r3), (.ref r4), (.ref r5), (.ref r6), .null, .null, .null, .null, .null, .null, .null, .null, .null, .null, .null, .null, .null, .null, .null, .null, .null, .null, .null, .null] .null := Arv.set Ar6 q6 Sz6 M6 Hs6 G6 rfl W15 6 rfl (Nat.le_of_ble_eq_true rfl)
  obtain ⟨T16, X16, e16, st16⟩ := getS2 X15 hx hZ hown (host := "") (Or.inl (hw _ (List.mem_of_getElem? (i := 18) rfl))) Via.refl e15 (own_sta_keep S7_ Kp7) (g := (mkF m 51 #[.val (.int p1), .unset, .unset, .unset, .unset, .unset] [(.int (7 : Int32)), (.ref b1), (.ref b1)])) rfl (hb hby at_51)
  obtain ⟨cl7, Ar7, q7, Sz7, M7, Hs7, G7⟩ := V7
  have hin7 : ¬ ((7 : Int32) < 0 ∨ cl7.slots.size ≤ ((7 : Int32)).toNatClampNeg) := inb_of Sz7 ⟨by decide, by decide⟩
  obtain ⟨T17, h17, X17, e17, W17, st17⟩ := stR X16 hx hZ e16 Ar7 (j := (7 : Int32)) hin7 rfl (Sto.ofV Ar7 q7 O1 (Ins.self (E7_.keep Kp7))) (g := (mkF m 54 #[.val (.int p1), .unset, .unset, .unset, .unset, .unset] [(.ref r7), (.int (7 : Int32)), (.ref b1), (.ref b1)])) rfl rfl (hb hby at_54)
  have Kp8 : Keep h0 h17 [] := Kp7.wr W17 (Or.inr sz_b)
  have N17 := Fr.snoc X17 N15 g_b
  have V8 : Arv Z h17 b1 k1 (.object "com/example/entente/entente/Option") (27 : Int32) [(.ref r0), (.ref r1), (.ref r2), (.ref r3), (.ref r4), (.ref r5), (.ref r6), (.ref r7), .null, .null, .null, .null, .null, .null, .null, .null, .null, .null, .null, .null, .null, .null, .null, .null, .null, .null, .null] .null := Arv.set Ar7 q7 Sz7 M7 Hs7 G7 rfl W17 7 rfl (Nat.le_of_ble_eq_true rfl)
  obtain ⟨T18, X18, e18, st18⟩ := getS2 X17 hx hZ hown (host := "") (Or.inl (hw _ (List.mem_of_getElem? (i := 20) rfl))) Via.refl e17 (own_sta_keep S8_ Kp8) (g := (mkF m 58 #[.val (.int p1), .unset, .unset, .unset, .unset, .unset] [(.int (8 : Int32)), (.ref b1), (.ref b1)])) rfl (hb hby at_58)
  obtain ⟨cl8, Ar8, q8, Sz8, M8, Hs8, G8⟩ := V8
  have hin8 : ¬ ((8 : Int32) < 0 ∨ cl8.slots.size ≤ ((8 : Int32)).toNatClampNeg) := inb_of Sz8 ⟨by decide, by decide⟩
  obtain ⟨T19, h19, X19, e19, W19, st19⟩ := stR X18 hx hZ e18 Ar8 (j := (8 : Int32)) hin8 rfl (Sto.ofV Ar8 q8 O1 (Ins.self (E8_.keep Kp8))) (g := (mkF m 61 #[.val (.int p1), .unset, .unset, .unset, .unset, .unset] [(.ref r8), (.int (8 : Int32)), (.ref b1), (.ref b1)])) rfl rfl (hb hby at_61)
  have Kp9 : Keep h0 h19 [] := Kp8.wr W19 (Or.inr sz_b)
  have N19 := Fr.snoc X19 N17 g_b
  have V9 : Arv Z h19 b1 k1 (.object "com/example/entente/entente/Option") (27 : Int32) [(.ref r0), (.ref r1), (.ref r2), (.ref r3), (.ref r4), (.ref r5), (.ref r6), (.ref r7), (.ref r8), .null, .null, .null, .null, .null, .null, .null, .null, .null, .null, .null, .null, .null, .null, .null, .null, .null, .null] .null := Arv.set Ar8 q8 Sz8 M8 Hs8 G8 rfl W19 8 rfl (Nat.le_of_ble_eq_true rfl)
  obtain ⟨T20, X20, e20, st20⟩ := getS2 X19 hx hZ hown (host := "") (Or.inl (hw _ (List.mem_of_getElem? (i := 22) rfl))) Via.refl e19 (own_sta_keep S9_ Kp9) (g := (mkF m 65 #[.val (.int p1), .unset, .unset, .unset, .unset, .unset] [(.int (9 : Int32)), (.ref b1), (.ref b1)])) rfl (hb hby at_65)
  obtain ⟨cl9, Ar9, q9, Sz9, M9, Hs9, G9⟩ := V9
  have hin9 : ¬ ((9 : Int32) < 0 ∨ cl9.slots.size ≤ ((9 : Int32)).toNatClampNeg) := inb_of Sz9 ⟨by decide, by decide⟩
  obtain ⟨T21, h21, X21, e21, W21, st21⟩ := stR X20 hx hZ e20 Ar9 (j := (9 : Int32)) hin9 rfl (Sto.ofV Ar9 q9 O1 (Ins.self (E9_.keep Kp9))) (g := (mkF m 68 #[.val (.int p1), .unset, .unset, .unset, .unset, .unset] [(.ref r9), (.int (9 : Int32)), (.ref b1), (.ref b1)])) rfl rfl (hb hby at_68)
  have Kp10 : Keep h0 h21 [] := Kp9.wr W21 (Or.inr sz_b)
  have N21 := Fr.snoc X21 N19 g_b
  have V10 : Arv Z h21 b1 k1 (.object "com/example/entente/entente/Option") (27 : Int32) [(.ref r0), (.ref r1), (.ref r2), (.ref r3), (.ref r4), (.ref r5), (.ref r6), (.ref r7), (.ref r8), (.ref r9), .null, .null, .null, .null, .null, .null, .null, .null, .null, .null, .null, .null, .null, .null, .null, .null, .null] .null := Arv.set Ar9 q9 Sz9 M9 Hs9 G9 rfl W21 9 rfl (Nat.le_of_ble_eq_true rfl)
  obtain ⟨T22, X22, e22, st22⟩ := getS2 X21 hx hZ hown (host := "") (Or.inl (hw _ (List.mem_of_getElem? (i := 24) rfl))) Via.refl e21 (own_sta_keep S10_ Kp10) (g := (mkF m 72 #[.val (.int p1), .unset, .unset, .unset, .unset, .unset] [(.int (10 : Int32)), (.ref b1), (.ref b1)])) rfl (hb hby at_72)
  obtain ⟨cl10, Ar10, q10, Sz10, M10, Hs10, G10⟩ := V10
  have hin10 : ¬ ((10 : Int32) < 0 ∨ cl10.slots.size ≤ ((10 : Int32)).toNatClampNeg) := inb_of Sz10 ⟨by decide, by decide⟩
  obtain ⟨T23, h23, X23, e23, W23, st23⟩ := stR X22 hx hZ e22 Ar10 (j := (10 : Int32)) hin10 rfl (Sto.ofV Ar10 q10 O1 (Ins.self (E10_.keep Kp10))) (g := (mkF m 75 #[.val (.int p1), .unset, .unset, .unset, .unset, .unset] [(.ref r10), (.int (10 : Int32)), (.ref b1), (.ref b1)])) rfl rfl (hb hby at_75)
  have Kp11 : Keep h0 h23 [] := Kp10.wr W23 (Or.inr sz_b)
  have N23 := Fr.snoc X23 N21 g_b
  have V11 : Arv Z h23 b1 k1 (.object "com/example/entente/entente/Option") (27 : Int32) [(.ref r0), (.ref r1), (.ref r2), (.ref r3), (.ref r4), (.ref r5), (.ref r6), (.ref r7), (.ref r8), (.ref r9), (.ref r10), .null, .null, .null, .null, .null, .null, .null, .null, .null, .null, .null, .null, .null, .null, .null, .null] .null := Arv.set Ar10 q10 Sz10 M10 Hs10 G10 rfl W23 10 rfl (Nat.le_of_ble_eq_true rfl)
  obtain ⟨T24, X24, e24, st24⟩ := getS2 X23 hx hZ hown (host := "") (Or.inl (hw _ (List.mem_of_getElem? (i := 26) rfl))) Via.refl e23 (own_sta_keep S11_ Kp11) (g := (mkF m 79 #[.val (.int p1), .unset, .unset, .unset, .unset, .unset] [(.int (11 : Int32)), (.ref b1), (.ref b1)])) rfl (hb hby at_79)
  obtain ⟨cl11, Ar11, q11, Sz11, M11, Hs11, G11⟩ := V11
  have hin11 : ¬ ((11 : Int32) < 0 ∨ cl11.slots.size ≤ ((11 : Int32)).toNatClampNeg) := inb_of Sz11 ⟨by decide, by decide⟩
  obtain ⟨T25, h25, X25, e25, W25, st25⟩ := stR X24 hx hZ e24 Ar11 (j := (11 : Int32)) hin11 rfl (Sto.ofV Ar11 q11 O1 (Ins.self (E11_.keep Kp11))) (g := (mkF m 82 #[.val (.int p1), .unset, .unset, .unset, .unset, .unset] [(.ref r11), (.int (11 : Int32)), (.ref b1), (.ref b1)])) rfl rfl (hb hby at_82)
  have Kp12 : Keep h0 h25 [] := Kp11.wr W25 (Or.inr sz_b)
  have N25 := Fr.snoc X25 N23 g_b
  have V12 : Arv Z h25 b1 k1 (.object "com/example/entente/entente/Option") (27 : Int32) [(.ref r0), (.ref r1), (.ref r2), (.ref r3), (.ref r4), (.ref r5), (.ref r6), (.ref r7), (.ref r8), (.ref r9), (.ref r10), (.ref r11), .null, .null, .null, .null, .null, .null, .null, .null, .null, .null, .null, .null, .null, .null, .null] .null := Arv.set Ar11 q11 Sz11 M11 Hs11 G11 rfl W25 11 rfl (Nat.le_of_ble_eq_true rfl)
  obtain ⟨T26, X26, e26, st26⟩ := getS2 X25 hx hZ hown (host := "") (Or.inl (hw _ (List.mem_of_getElem? (i := 28) rfl))) Via.refl e25 (own_sta_keep S12_ Kp12) (g := (mkF m 86 #[.val (.int p1), .unset, .unset, .unset, .unset, .unset] [(.int (12 : Int32)), (.ref b1), (.ref b1)])) rfl (hb hby at_86)
  obtain ⟨cl12, Ar12, q12, Sz12, M12, Hs12, G12⟩ := V12
  have hin12 : ¬ ((12 : Int32) < 0 ∨ cl12.slots.size ≤ ((12 : Int32)).toNatClampNeg) := inb_of Sz12 ⟨by decide, by decide⟩
  obtain ⟨T27, h27, X27, e27, W27, st27⟩ := stR X26 hx hZ e26 Ar12 (j := (12 : Int32)) hin12 rfl (Sto.ofV Ar12 q12 O1 (Ins.self (E12_.keep Kp12))) (g := (mkF m 89 #[.val (.int p1), .unset, .unset, .unset, .unset, .unset] [(.ref r12), (.int (12 : Int32)), (.ref b1), (.ref b1)])) rfl rfl (hb hby at_89)
  have Kp13 : Keep h0 h27 [] := Kp12.wr W27 (Or.inr sz_b)
  have N27 := Fr.snoc X27 N25 g_b
  have V13 : Arv Z h27 b1 k1 (.object "com/example/entente/entente/Option") (27 : Int32) [(.ref r0), (.ref r1), (.ref r2), (.ref r3), (.ref r4), (.ref r5), (.ref r6), (.ref r7), (.ref r8), (.ref r9), (.ref r10), (.ref r11), (.ref r12), .null, .null, .null, .null, .null, .null, .null, .null, .null, .null, .null, .null, .null, .null] .null := Arv.set Ar12 q12 Sz12 M12 Hs12 G12 rfl W27 12 rfl (Nat.le_of_ble_eq_true rfl)
  obtain ⟨T28, X28, e28, st28⟩ := getS2 X27 hx hZ hown (host := "") (Or.inl (hw _ (List.mem_of_getElem? (i := 30) rfl))) Via.refl e27 (own_sta_keep S13_ Kp13) (g := (mkF m 93 #[.val (.int p1), .unset, .unset, .unset, .unset, .unset] [(.int (13 : Int32)), (.ref b1), (.ref b1)])) rfl (hb hby at_93)
  obtain ⟨cl13, Ar13, q13, Sz13, M13, Hs13, G13⟩ := V13
  have hin13 : ¬ ((13 : Int32) < 0 ∨ cl13.slots.size ≤ ((13 : Int32)).toNatClampNeg) := inb_of Sz13 ⟨by decide, by decide⟩
  obtain ⟨T29, h29, X29, e29, W29, st29⟩ := stR X28 hx hZ e28 Ar13 (j := (13 : Int32)) hin13 rfl (Sto.ofV Ar13 q13 O1 (Ins.self (E13_.keep Kp13))) (g := (mkF m 96 #[.val (.int p1), .unset, .unset, .unset, .unset, .unset] [(.ref r13), (.int (13 : Int32)), (.ref b1), (.ref b1)])) rfl rfl (hb hby at_96)
  have Kp14 : Keep h0 h29 [] := Kp13.wr W29 (Or.inr sz_b)
  have N29 := Fr.snoc X29 N27 g_b
  have V14 : Arv Z h29 b1 k1 (.object "com/example/entente/entente/Option") (27 : Int32) [(.ref r0), (.ref r1), (.ref r2), (.ref r3), (.ref r4), (.ref r5), (.ref r6), (.ref r7), (.ref r8), (.ref r9), (.ref r10), (.ref r11), (.ref r12), (.ref r13), .null, .null, .null, .null, .null, .null, .null, .null, .null, .null, .null, .null, .null] .null := Arv.set Ar13 q13 Sz13 M13 Hs13 G13 rfl W29 13 rfl (Nat.le_of_ble_eq_true rfl)
  obtain ⟨T30, X30, e30, st30⟩ := getS2 X29 hx hZ hown (host := "") (Or.inl (hw _ (List.mem_of_getElem? (i := 32) rfl))) Via.refl e29 (own_sta_keep S14_ Kp14) (g := (mkF m 100 #[.val (.int p1), .unset, .unset, .unset, .unset, .unset] [(.int (14 : Int32)), (.ref b1), (.ref b1)])) rfl (hb hby at_100)
  obtain ⟨cl14, Ar14, q14, Sz14, M14, Hs14, G14⟩ := V14
  have hin14 : ¬ ((14 : Int32) < 0 ∨ cl14.slots.size ≤ ((14 : Int32)).toNatClampNeg) := inb_of Sz14 ⟨by decide, by decide⟩
  obtain ⟨T31, h31, X31, e31, W31, st31⟩ := stR X30 hx hZ e30 Ar14 (j := (14 : Int32)) hin14 rfl (Sto.ofV Ar14 q14 O1 (Ins.self (E14_.keep Kp14))) (g := (mkF m 103 #[.val (.int p1), .unset, .unset, .unset, .unset, .unset] [(.ref r14), (.int (14 : Int32)), (.ref b1), (.ref b1)])) rfl rfl (hb hby at_103)
  have Kp15 : Keep h0 h31 [] := Kp14.wr W31 (Or.inr sz_b)
  have N31 := Fr.snoc X31 N29 g_b
  have V15 : Arv Z h31 b1 k1 (.object "com/example/entente/entente/Option") (27 : Int32) [(.ref r0), (.ref r1), (.ref r2), (.ref r3), (.ref r4), (.ref r5), (.ref r6), (.ref r7), (.ref r8), (.ref r9), (.ref r10), (.ref r11), (.ref r12), (.ref r13), (.ref r14), .null, .null, .null, .null, .null, .null, .null, .null, .null, .null, .null, .null] .null := Arv.set Ar14 q14 Sz14 M14 Hs14 G14 rfl W31 14 rfl (Nat.le_of_ble_eq_true rfl)
  obtain ⟨T32, X32, e32, st32⟩ := getS2 X31 hx hZ hown (host := "") (Or.inl (hw _ (List.mem_of_getElem? (i := 34) rfl))) Via.refl e31 (own_sta_keep S15_ Kp15) (g := (mkF m 107 #[.val (.int p1), .unset, .unset, .unset, .unset, .unset] [(.int (15 : Int32)), (.ref b1), (.ref b1)])) rfl (hb hby at_107)
  obtain ⟨cl15, Ar15, q15, Sz15, M15, Hs15, G15⟩ := V15
  have hin15 : ¬ ((15 : Int32) < 0 ∨ cl15.slots.size ≤ ((15 : Int32)).toNatClampNeg) := inb_of Sz15 ⟨by decide, by decide⟩
  obtain ⟨T33, h33, X33, e33, W33, st33⟩ := stR X32 hx hZ e32 Ar15 (j := (15 : Int32)) hin15 rfl (Sto.ofV Ar15 q15 O1 (Ins.self (E15_.keep Kp15))) (g := (mkF m 110 #[.val (.int p1), .unset, .unset, .unset, .unset, .unset] [(.ref r15), (.int (15 : Int32)), (.ref b1), (.ref b1)])) rfl rfl (hb hby at_110)
  have Kp16 : Keep h0 h33 [] := Kp15.wr W33 (Or.inr sz_b)
  have N33 := Fr.snoc X33 N31 g_b
  have V16 : Arv Z h33 b1 k1 (.object "com/example/entente/entente/Option") (27 : Int32) [(.ref r0), (.ref r1), (.ref r2), (.ref r3), (.ref r4), (.ref r5), (.ref r6), (.ref r7), (.ref r8), (.ref r9), (.ref r10), (.ref r11), (.ref r12), (.ref r13), (.ref r14), (.ref r15), .null, .null, .null, .null, .null, .null, .null, .null, .null, .null, .null] .null := Arv.set Ar15 q15 Sz15 M15 Hs15 G15 rfl W33 15 rfl (Nat.le_of_ble_eq_true rfl)
  obtain ⟨T34, X34, e34, st34⟩ := getS2 X33 hx hZ hown (host := "") (Or.inl (hw _ (List.mem_of_getElem? (i := 36) rfl))) Via.refl e33 (own_sta_keep S16_ Kp16) (g := (mkF m 114 #[.val (.int p1), .unset, .unset, .unset, .unset, .unset] [(.int (16 : Int32)), (.ref b1), (.ref b1)])) rfl (hb hby at_114)
  obtain ⟨cl16, Ar16, q16, Sz16, M16, Hs16, G16⟩ := V16
  have hin16 : ¬ ((16 : Int32) < 0 ∨ cl16.slots.size ≤ ((16 : Int32)).toNatClampNeg) := inb_of Sz16 ⟨by decide, by decide⟩
  obtain ⟨T35, h35, X35, e35, W35, st35⟩ := stR X34 hx hZ e34 Ar16 (j := (16 : Int32)) hin16 rfl (Sto.ofV Ar16 q16 O1 (Ins.self (E16_.keep Kp16))) (g := (mkF m 117 #[.val (.int p1), .unset, .unset, .unset, .unset, .unset] [(.ref r16), (.int (16 : Int32)), (.ref b1), (.ref b1)])) rfl rfl (hb hby at_117)
  have Kp17 : Keep h0 h35 [] := Kp16.wr W35 (Or.inr sz_b)
  have N35 := Fr.snoc X35 N33 g_b
  have V17 : Arv Z h35 b1 k1 (.object "com/example/entente/entente/Option") (27 : Int32) [(.ref r0), (.ref r1), (.ref r2), (.ref r3), (.ref r4), (.ref r5), (.ref r6), (.ref r7), (.ref r8), (.ref r9), (.ref r10), (.ref r11), (.ref r12), (.ref r13), (.ref r14), (.ref r15), (.ref r16), .null, .null, .null, .null, .null, .null, .null, .null, .null, .null] .null := Arv.set Ar16 q16 Sz16 M16 Hs16 G16 rfl W35 16 rfl (Nat.le_of_ble_eq_true rfl)
  obtain ⟨T36, X36, e36, st36⟩ := getS2 X35 hx hZ hown (host := "") (Or.inl (hw _ (List.mem_of_getElem? (i := 38) rfl))) Via.refl e35 (own_sta_keep S17_ Kp17) (g := (mkF m 121 #[.val (.int p1), .unset, .unset, .unset, .unset, .unset] [(.int (17 : Int32)), (.ref b1), (.ref b1)])) rfl (hb hby at_121)
  obtain ⟨cl17, Ar17, q17, Sz17, M17, Hs17, G17⟩ := V17
  have hin17 : ¬ ((17 : Int32) < 0 ∨ cl17.slots.size ≤ ((17 : Int32)).toNatClampNeg) := inb_of Sz17 ⟨by decide, by decide⟩
  obtain ⟨T37, h37, X37, e37, W37, st37⟩ := stR X36 hx hZ e36 Ar17 (j := (17 : Int32)) hin17 rfl (Sto.ofV Ar17 q17 O1 (Ins.self (E17_.keep Kp17))) (g := (mkF m 124 #[.val (.int p1), .unset, .unset, .unset, .unset, .unset] [(.ref r17), (.int (17 : Int32)), (.ref b1), (.ref b1)])) rfl rfl (hb hby at_124)
  have Kp18 : Keep h0 h37 [] := Kp17.wr W37 (Or.inr sz_b)
  have N37 := Fr.snoc X37 N35 g_b
  have V18 : Arv Z h37 b1 k1 (.object "com/example/entente/entente/Option") (27 : Int32) [(.ref r0), (.ref r1), (.ref r2), (.ref r3), (.ref r4), (.ref r5), (.ref r6), (.ref r7), (.ref r8), (.ref r9), (.ref r10), (.ref r11), (.ref r12), (.ref r13), (.ref r14), (.ref r15), (.ref r16), (.ref r17), .null, .null, .null, .null, .null, .null, .null, .null, .null] .null := Arv.set Ar17 q17 Sz17 M17 Hs17 G17 rfl W37 17 rfl (Nat.le_of_ble_eq_true rfl)
  obtain ⟨T38, X38, e38, st38⟩ := getS2 X37 hx hZ hown (host := "") (Or.inl (hw _ (List.mem_of_getElem? (i := 40) rfl))) Via.refl e37 (own_sta_keep S18_ Kp18) (g := (mkF m 128 #[.val (.int p1), .unset, .unset, .unset, .unset, .unset] [(.int (18 : Int32)), (.ref b1), (.ref b1)])) rfl (hb hby at_128)
  obtain ⟨cl18, Ar18, q18, Sz18, M18, Hs18, G18⟩ := V18
  have hin18 : ¬ ((18 : Int32) < 0 ∨ cl18.slots.size ≤ ((18 : Int32)).toNatClampNeg) := inb_of Sz18 ⟨by decide, by decide⟩
  obtain ⟨T39, h39, X39, e39, W39, st39⟩ := stR X38 hx hZ e38 Ar18 (j := (18 : Int32)) hin18 rfl (Sto.ofV Ar18 q18 O1 (Ins.self (E18_.keep Kp18))) (g := (mkF m 131 #[.val (.int p1), .unset, .unset, .unset, .unset, .unset] [(.ref r18), (.int (18 : Int32)), (.ref b1), (.ref b1)])) rfl rfl (hb hby at_131)
  have Kp19 : Keep h0 h39 [] := Kp18.wr W39 (Or.inr sz_b)
  have N39 := Fr.snoc X39 N37 g_b
  have V19 : Arv Z h39 b1 k1 (.object "com/example/entente/entente/Option") (27 : Int32) [(.ref r0), (.ref r1), (.ref r2), (.ref r3), (.ref r4), (.ref r5), (.ref r6), (.ref r7), (.ref r8), (.ref r9), (.ref r10), (.ref r11), (.ref r12), (.ref r13), (.ref r14), (.ref r15), (.ref r16), (.ref r17), (.ref r18), .null, .null, .null, .null, .null, .null, .null, .null] .null := Arv.set Ar18 q18 Sz18 M18 Hs18 G18 rfl W39 18 rfl (Nat.le_of_ble_eq_true rfl)
  obtain ⟨T40, X40, e40, st40⟩ := getS2 X39 hx hZ hown (host := "") (Or.inl (hw _ (List.mem_of_getElem? (i := 42) rfl))) Via.refl e39 (own_sta_keep S19_ Kp19) (g := (mkF m 135 #[.val (.int p1), .unset, .unset, .unset, .unset, .unset] [(.int (19 : Int32)), (.ref b1), (.ref b1)])) rfl (hb hby at_135)
  obtain ⟨cl19, Ar19, q19, Sz19, M19, Hs19, G19⟩ := V19
  have hin19 : ¬ ((19 : Int32) < 0 ∨ cl19.slots.size ≤ ((19 : Int32)).toNatClampNeg) := inb_of Sz19 ⟨by decide, by decide⟩
  obtain ⟨T41, h41, X41, e41, W41, st41⟩ := stR X40 hx hZ e40 Ar19 (j := (19 : Int32)) hin19 rfl (Sto.ofV Ar19 q19 O1 (Ins.self (E19_.keep Kp19))) (g := (mkF m 138 #[.val (.int p1), .unset, .unset, .unset, .unset, .unset] [(.ref r19), (.int (19 : Int32)), (.ref b1), (.ref b1)])) rfl rfl (hb hby at_138)
  have Kp20 : Keep h0 h41 [] := Kp19.wr W41 (Or.inr sz_b)
  have N41 := Fr.snoc X41 N39 g_b
  have V20 : Arv Z h41 b1 k1 (.object "com/example/entente/entente/Option") (27 : Int32) [(.ref r0), (.ref r1), (.ref r2), (.ref r3), (.ref r4), (.ref r5), (.ref r6), (.ref r7), (.ref r8), (.ref r9), (.ref r10), (.ref r11), (.ref r12), (.ref r13), (.ref r14), (.ref r15), (.ref r16), (.ref r17), (.ref r18), (.ref r19), .null, .null, .null, .null, .null, .null, .null] .null := Arv.set Ar19 q19 Sz19 M19 Hs19 G19 rfl W41 19 rfl (Nat.le_of_ble_eq_true rfl)
  obtain ⟨T42, X42, e42, st42⟩ := getS2 X41 hx hZ hown (host := "") (Or.inl (hw _ (List.mem_of_getElem? (i := 44) rfl))) Via.refl e41 (own_sta_keep S20_ Kp20) (g := (mkF m 142 #[.val (.int p1), .unset, .unset, .unset, .unset, .unset] [(.int (20 : Int32)), (.ref b1), (.ref b1)])) rfl (hb hby at_142)
  obtain ⟨cl20, Ar20, q20, Sz20, M20, Hs20, G20⟩ := V20
  have hin20 : ¬ ((20 : Int32) < 0 ∨ cl20.slots.size ≤ ((20 : Int32)).toNatClampNeg) := inb_of Sz20 ⟨by decide, by decide⟩
  obtain ⟨T43, h43, X43, e43, W43, st43⟩ := stR X42 hx hZ e42 Ar20 (j := (20 : Int32)) hin20 rfl (Sto.ofV Ar20 q20 O1 (Ins.self (E20_.keep Kp20))) (g := (mkF m 145 #[.val (.int p1), .unset, .unset, .unset, .unset, .unset] [(.ref r20), (.int (20 : Int32)), (.ref b1), (.ref b1)])) rfl rfl (hb hby at_145)
  have Kp21 : Keep h0 h43 [] := Kp20.wr W43 (Or.inr sz_b)
  have N43 := Fr.snoc X43 N41 g_b
  have V21 : Arv Z h43 b1 k1 (.object "com/example/entente/entente/Option") (27 : Int32) [(.ref r0), (.ref r1), (.ref r2), (.ref r3), (.ref r4), (.ref r5), (.ref r6), (.ref r7), (.ref r8), (.ref r9), (.ref r10), (.ref r11), (.ref r12), (.ref r13), (.ref r14), (.ref r15), (.ref r16), (.ref r17), (.ref r18), (.ref r19), (.ref r20), .null, .null, .null, .null, .null, .null] .null := Arv.set Ar20 q20 Sz20 M20 Hs20 G20 rfl W43 20 rfl (Nat.le_of_ble_eq_true rfl)
  obtain ⟨T44, X44, e44, st44⟩ := getS2 X43 hx hZ hown (host := "") (Or.inl (hw _ (List.mem_of_getElem? (i := 46) rfl))) Via.refl e43 (own_sta_keep S21_ Kp21) (g := (mkF m 149 #[.val (.int p1), .unset, .unset, .unset, .unset, .unset] [(.int (21 : Int32)), (.ref b1), (.ref b1)])) rfl (hb hby at_149)
  obtain ⟨cl21, Ar21, q21, Sz21, M21, Hs21, G21⟩ := V21
  have hin21 : ¬ ((21 : Int32) < 0 ∨ cl21.slots.size ≤ ((21 : Int32)).toNatClampNeg) := inb_of Sz21 ⟨by decide, by decide⟩
  obtain ⟨T45, h45, X45, e45, W45, st45⟩ := stR X44 hx hZ e44 Ar21 (j := (21 : Int32)) hin21 rfl (Sto.ofV Ar21 q21 O1 (Ins.self (E21_.keep Kp21))) (g := (mkF m 152 #[.val (.int p1), .unset, .unset, .unset, .unset, .unset] [(.ref r21), (.int (21 : Int32)), (.ref b1), (.ref b1)])) rfl rfl (hb hby at_152)
  have Kp22 : Keep h0 h45 [] := Kp21.wr W45 (Or.inr sz_b)
  have N45 := Fr.snoc X45 N43 g_b
  have V22 : Arv Z h45 b1 k1 (.object "com/example/entente/entente/Option") (27 : Int32) [(.ref r0), (.ref r1), (.ref r2), (.ref r3), (.ref r4), (.ref r5), (.ref r6), (.ref r7), (.ref r8), (.ref r9), (.ref r10), (.ref r11), (.ref r12), (.ref r13), (.ref r14), (.ref r15), (.ref r16), (.ref r17), (.ref r18), (.ref r19), (.ref r20), (.ref r21), .null, .null, .null, .null, .null] .null := Arv.set Ar21 q21 Sz21 M21 Hs21 G21 rfl W45 21 rfl (Nat.le_of_ble_eq_true rfl)
  obtain ⟨T46, X46, e46, st46⟩ := getS2 X45 hx hZ hown (host := "") (Or.inl (hw _ (List.mem_of_getElem? (i := 48) rfl))) Via.refl e45 (own_sta_keep S22_ Kp22) (g := (mkF m 156 #[.val (.int p1), .unset, .unset, .unset, .unset, .unset] [(.int (22 : Int32)), (.ref b1), (.ref b1)])) rfl (hb hby at_156)
  obtain ⟨cl22, Ar22, q22, Sz22, M22, Hs22, G22⟩ := V22
  have hin22 : ¬ ((22 : Int32) < 0 ∨ cl22.slots.size ≤ ((22 : Int32)).toNatClampNeg) := inb_of Sz22 ⟨by decide, by decide⟩
  obtain ⟨T47, h47, X47, e47, W47, st47⟩ := stR X46 hx hZ e46 Ar22 (j := (22 : Int32)) hin22 rfl (Sto.ofV Ar22 q22 O1 (Ins.self (E22_.keep Kp22))) (g := (mkF m 159 #[.val (.int p1), .unset, .unset, .unset, .unset, .unset] [(.ref r22), (.int (22 : Int32)), (.ref b1), (.ref b1)])) rfl rfl (hb hby at_159)
  have Kp23 : Keep h0 h47 [] := Kp22.wr W47 (Or.inr sz_b)
  have N47 := Fr.snoc X47 N45 g_b
  have V23 : Arv Z h47 b1 k1 (.object "com/example/entente/entente/Option") (27 : Int32) [(.ref r0), (.ref r1), (.ref r2), (.ref r3), (.ref r4), (.ref r5), (.ref r6), (.ref r7), (.ref r8), (.ref r9), (.ref r10), (.ref r11), (.ref r12), (.ref r13), (.ref r14), (.ref r15), (.ref r16), (.ref r17), (.ref r18), (.ref r19), (.ref r20), (.ref r21), (.ref r22), .null, .null, .null, .null] .null := Arv.set Ar22 q22 Sz22 M22 Hs22 G22 rfl W47 22 rfl (Nat.le_of_ble_eq_true rfl)
  obtain ⟨T48, X48, e48, st48⟩ := getS2 X47 hx hZ hown (host := "") (Or.inl (hw _ (List.mem_of_getElem? (i := 50) rfl))) Via.refl e47 (own_sta_keep S23_ Kp23) (g := (mkF m 163 #[.val (.int p1), .unset, .unset, .unset, .unset, .unset] [(.int (23 : Int32)), (.ref b1), (.ref b1)])) rfl (hb hby at_163)
  obtain ⟨cl23, Ar23, q23, Sz23, M23, Hs23, G23⟩ := V23
  have hin23 : ¬ ((23 : Int32) < 0 ∨ cl23.slots.size ≤ ((23 : Int32)).toNatClampNeg) := inb_of Sz23 ⟨by decide, by decide⟩
  obtain ⟨T49, h49, X49, e49, W49, st49⟩ := stR X48 hx hZ e48 Ar23 (j := (23 : Int32)) hin23 rfl (Sto.ofV Ar23 q23 O1 (Ins.self (E23_.keep Kp23))) (g := (mkF m 166 #[.val (.int p1), .unset, .unset, .unset, .unset, .unset] [(.ref r23), (.int (23 : Int32)), (.ref b1), (.ref b1)])) rfl rfl (hb hby at_166)
  have Kp24 : Keep h0 h49 [] := Kp23.wr W49 (Or.inr sz_b)
  have N49 := Fr.snoc X49 N47 g_b
  have V24 : Arv Z h49 b1 k1 (.object "com/example/entente/entente/Option") (27 : Int32) [(.ref r0), (.ref r1), (.ref r2), (.ref r3), (.ref r4), (.ref r5), (.ref r6), (.ref r7), (.ref r8), (.ref r9), (.ref r10), (.ref r11), (.ref r12), (.ref r13), (.ref r14), (.ref r15), (.ref r16), (.ref r17), (.ref r18), (.ref r19), (.ref r20), (.ref r21), (.ref r22), (.ref r23), .null, .null, .null] .null := Arv.set Ar23 q23 Sz23 M23 Hs23 G23 rfl W49 23 rfl (Nat.le_of_ble_eq_true rfl)
  obtain ⟨T50, X50, e50, st50⟩ := getS2 X49 hx hZ hown (host := "") (Or.inl (hw _ (List.mem_of_getElem? (i := 52) rfl))) Via.refl e49 (own_sta_keep S24_ Kp24) (g := (mkF m 170 #[.val (.int p1), .unset, .unset, .unset, .unset, .unset] [(.int (24 : Int32)), (.ref b1), (.ref b1)])) rfl (hb hby at_170)
  obtain ⟨cl24, Ar24, q24, Sz24, M24, Hs24, G24⟩ := V24
  have hin24 : ¬ ((24 : Int32) < 0 ∨ cl24.slots.size ≤ ((24 : Int32)).toNatClampNeg) := inb_of Sz24 ⟨by decide, by decide⟩
  obtain ⟨T51, h51, X51, e51, W51, st51⟩ := stR X50 hx hZ e50 Ar24 (j := (24 : Int32)) hin24 rfl (Sto.ofV Ar24 q24 O1 (Ins.self (E24_.keep Kp24))) (g := (mkF m 173 #[.val (.int p1), .unset, .unset, .unset, .unset, .unset] [(.ref r24), (.int (24 : Int32)), (.ref b1), (.ref b1)])) rfl rfl (hb hby at_173)
  have Kp25 : Keep h0 h51 [] := Kp24.wr W51 (Or.inr sz_b)
  have N51 := Fr.snoc X51 N49 g_b
  have V25 : Arv Z h51 b1 k1 (.object "com/example/entente/entente/Option") (27 : Int32) [(.ref r0), (.ref r1), (.ref r2), (.ref r3), (.ref r4), (.ref r5), (.ref r6), (.ref r7), (.ref r8), (.ref r9), (.ref r10), (.ref r11), (.ref r12), (.ref r13), (.ref r14), (.ref r15), (.ref r16), (.ref r17), (.ref r18), (.ref r19), (.ref r20), (.ref r21), (.ref r22), (.ref r23), (.ref r24), .null, .null] .null := Arv.set Ar24 q24 Sz24 M24 Hs24 G24 rfl W51 24 rfl (Nat.le_of_ble_eq_true rfl)
  obtain ⟨T52, X52, e52, st52⟩ := getS2 X51 hx hZ hown (host := "") (Or.inl (hw _ (List.mem_of_getElem? (i := 54) rfl))) Via.refl e51 (own_sta_keep S25_ Kp25) (g := (mkF m 177 #[.val (.int p1), .unset, .unset, .unset, .unset, .unset] [(.int (25 : Int32)), (.ref b1), (.ref b1)])) rfl (hb hby at_177)
  obtain ⟨cl25, Ar25, q25, Sz25, M25, Hs25, G25⟩ := V25
  have hin25 : ¬ ((25 : Int32) < 0 ∨ cl25.slots.size ≤ ((25 : Int32)).toNatClampNeg) := inb_of Sz25 ⟨by decide, by decide⟩
  obtain ⟨T53, h53, X53, e53, W53, st53⟩ := stR X52 hx hZ e52 Ar25 (j := (25 : Int32)) hin25 rfl (Sto.ofV Ar25 q25 O1 (Ins.self (E25_.keep Kp25))) (g := (mkF m 180 #[.val (.int p1), .unset, .unset, .unset, .unset, .unset] [(.ref r25), (.int (25 : Int32)), (.ref b1), (.ref b1)])) rfl rfl (hb hby at_180)
  have Kp26 : Keep h0 h53 [] := Kp25.wr W53 (Or.inr sz_b)
  have N53 := Fr.snoc X53 N51 g_b
  have V26 : Arv Z h53 b1 k1 (.object "com/example/entente/entente/Option") (27 : Int32) [(.ref r0), (.ref r1), (.ref r2), (.ref r3), (.ref r4), (.ref r5), (.ref r6), (.ref r7), (.ref r8), (.ref r9), (.ref r10), (.ref r11), (.ref r12), (.ref r13), (.ref r14), (.ref r15), (.ref r16), (.ref r17), (.ref r18), (.ref r19), (.ref r20), (.ref r21), (.ref r22), (.ref r23), (.ref r24), (.ref r25), .null] .null := Arv.set Ar25 q25 Sz25 M25 Hs25 G25 rfl W53 25 rfl (Nat.le_of_ble_eq_true rfl)
  obtain ⟨T54, X54, e54, st54⟩ := getS2 X53 hx hZ hown (host := "") (Or.inl (hw _ (List.mem_of_getElem? (i := 56) rfl))) Via.refl e53 (own_sta_keep S26_ Kp26) (g := (mkF m 184 #[.val (.int p1), .unset, .unset, .unset, .unset, .unset] [(.int (26 : Int32)), (.ref b1), (.ref b1)])) rfl (hb hby at_184)
  obtain ⟨cl26, Ar26, q26, Sz26, M26, Hs26, G26⟩ := V26
  have hin26 : ¬ ((26 : Int32) < 0 ∨ cl26.slots.size ≤ ((26 : Int32)).toNatClampNeg) := inb_of Sz26 ⟨by decide, by decide⟩
  obtain ⟨T55, h55, X55, e55, W55, st55⟩ := stR X54 hx hZ e54 Ar26 (j := (26 : Int32)) hin26 rfl (Sto.ofV Ar26 q26 O1 (Ins.self (E26_.keep Kp26))) (g := (mkF m 187 #[.val (.int p1), .unset, .unset, .unset, .unset, .unset] [(.ref r26), (.int (26 : Int32)), (.ref b1), (.ref b1)])) rfl rfl (hb hby at_187)
  have Kp27 : Keep h0 h55 [] := Kp26.wr W55 (Or.inr sz_b)
  have N55 := Fr.snoc X55 N53 g_b
  have V27 : Arv Z h55 b1 k1 (.object "com/example/entente/entente/Option") (27 : Int32) [(.ref r0), (.ref r1), (.ref r2), (.ref r3), (.ref r4), (.ref r5), (.ref r6), (.ref r7), (.ref r8), (.ref r9), (.ref r10), (.ref r11), (.ref r12), (.ref r13), (.ref r14), (.ref r15), (.ref r16), (.ref r17), (.ref r18), (.ref r19), (.ref r20), (.ref r21), (.ref r22), (.ref r23), (.ref r24), (.ref r25), (.ref r26)] .null := Arv.set Ar26 q26 Sz26 M26 Hs26 G26 rfl W55 26 rfl (Nat.le_of_ble_eq_true rfl)
  refine ⟨T55, _, h55, b1, k1, X55, N55, e55, Nat.le_trans Z0 Kp27.1, Kp27, V27, fun target kt => ?_⟩
  show Steps p.tables e below (T0.setTop (mkF m 0 #[.val (.int p1), .unset, .unset, .unset, .unset, .unset] [])) _
  refine XS.bipush X0.here hx rfl (hb hby at_0) ?_
  show Steps p.tables e below (T0.setTop (mkF m 2 #[.val (.int p1), .unset, .unset, .unset, .unset, .unset] [(.int (27 : Int32))])) _
  refine st1 _ ?_
  show Steps p.tables e below (T1.setTop (mkF m 5 #[.val (.int p1), .unset, .unset, .unset, .unset, .unset] [(.ref b1)])) _
  refine XS.dup X1.here hx rfl (hb hby at_5) rfl rfl ?_
  show Steps p.tables e below (T1.setTop (mkF m 6 #[.val (.int p1), .unset, .unset, .unset, .unset, .unset] [(.ref b1), (.ref b1)])) _
  refine XS.iconst X1.here hx rfl (hb hby at_6) ?_
  show Steps p.tables e below (T1.setTop (mkF m 7 #[.val (.int p1), .unset, .unset, .unset, .unset, .unset] [(.int (0 : Int32)), (.ref b1), (.ref b1)])) _
  refine st2 _ ?_
  show Steps p.tables e below (T2.setTop (mkF m 10 #[.val (.int p1), .unset, .unset, .unset, .unset, .unset] [(.ref r0), (.int (0 : Int32)), (.ref b1), (.ref b1)])) _
  refine st3 _ ?_
  show Steps p.tables e below (T3.setTop (mkF m 11 #[.val (.int p1), .unset, .unset, .unset, .unset, .unset] [(.ref b1)])) _
  refine XS.dup X3.here hx rfl (hb hby at_11) rfl rfl ?_
  show Steps p.tables e below (T3.setTop (mkF m 12 #[.val (.int p1), .unset, .unset, .unset, .unset, .unset] [(.ref b1), (.ref b1)])) _
  refine XS.iconst X3.here hx rfl (hb hby at_12) ?_
  show Steps p.tables e below (T3.setTop (mkF m 13 #[.val (.int p1), .unset, .unset, .unset, .unset, .unset] [(.int (1 : Int32)), (.ref b1), (.ref b1)])) _
  refine st4 _ ?_
  show Steps p.tables e below (T4.setTop (mkF m 16 #[.val (.int p1), .unset, .unset, .unset, .unset, .unset] [(.ref r1), (.int (1 : Int32)), (.ref b1), (.ref b1)])) _
  refine st5 _ ?_
  show Steps p.tables e below (T5.setTop (mkF m 17 #[.val (.int p1), .unset, .unset, .unset, .unset, .unset] [(.ref b1)])) _
  refine XS.dup X5.here hx rfl (hb hby at_17) rfl rfl ?_
  show Steps p.tables e below (T5.setTop (mkF m 18 #[.val (.int p1), .unset, .unset, .unset, .unset, .unset] [(.ref b1), (.ref b1)])) _
  refine XS.iconst X5.here hx rfl (hb hby at_18) ?_
  show Steps p.tables e below (T5.setTop (mkF m 19 #[.val (.int p1), .unset, .unset, .unset, .unset, .unset] [(.int (2 : Int32)), (.ref b1), (.ref b1)])) _
  refine st6 _ ?_
  show Steps p.tables e below (T6.setTop (mkF m 22 #[.val (.int p1), .unset, .unset, .unset, .unset, .unset] [(.ref r2), (.int (2 : Int32)), (.ref b1), (.ref b1)])) _
  refine st7 _ ?_
  show Steps p.tables e below (T7.setTop (mkF m 23 #[.val (.int p1), .unset, .unset, .unset, .unset, .unset] [(.ref b1)])) _
  refine XS.dup X7.here hx rfl (hb hby at_23) rfl rfl ?_
  show Steps p.tables e below (T7.setTop (mkF m 24 #[.val (.int p1), .unset, .unset, .unset, .unset, .unset] [(.ref b1), (.ref b1)])) _
  refine XS.iconst X7.here hx rfl (hb hby at_24) ?_
  show Steps p.tables e below (T7.setTop (mkF m 25 #[.val (.int p1), .unset, .unset, .unset, .unset, .unset] [(.int (3 : Int32)), (.ref b1), (.ref b1)])) _
  refine st8 _ ?_
  show Steps p.tables e below (T8.setTop (mkF m 28 #[.val (.int p1), .unset, .unset, .unset, .unset, .unset] [(.ref r3), (.int (3 : Int32)), (.ref b1), (.ref b1)])) _
  refine st9 _ ?_
  show Steps p.tables e below (T9.setTop (mkF m 29 #[.val (.int p1), .unset, .unset, .unset, .unset, .unset] [(.ref b1)])) _
  refine XS.dup X9.here hx rfl (hb hby at_29) rfl rfl ?_
  show Steps p.tables e below (T9.setTop (mkF m 30 #[.val (.int p1), .unset, .unset, .unset, .unset, .unset] [(.ref b1), (.ref b1)])) _
  refine XS.iconst X9.here hx rfl (hb hby at_30) ?_
  show Steps p.tables e below (T9.setTop (mkF m 31 #[.val (.int p1), .unset, .unset, .unset, .unset, .unset] [(.int (4 : Int32)), (.ref b1), (.ref b1)])) _
  refine st10 _ ?_
  show Steps p.tables e below (T10.setTop (mkF m 34 #[.val (.int p1), .unset, .unset, .unset, .unset, .unset] [(.ref r4), (.int (4 : Int32)), (.ref b1), (.ref b1)])) _
  refine st11 _ ?_
  show Steps p.tables e below (T11.setTop (mkF m 35 #[.val (.int p1), .unset, .unset, .unset, .unset, .unset] [(.ref b1)])) _
  refine XS.dup X11.here hx rfl (hb hby at_35) rfl rfl ?_
  show Steps p.tables e below (T11.setTop (mkF m 36 #[.val (.int p1), .unset, .unset, .unset, .unset, .unset] [(.ref b1), (.ref b1)])) _
  refine XS.iconst X11.here hx rfl (hb hby at_36) ?_
  show Steps p.tables e below (T11.setTop (mkF m 37 #[.val (.int p1), .unset, .unset, .unset, .unset, .unset] [(.int (5 : Int32)), (.ref b1), (.ref b1)])) _
  refine st12 _ ?_
  show Steps p.tables e below (T12.setTop (mkF m 40 #[.val (.int p1), .unset, .unset, .unset, .unset, .unset] [(.ref r5), (.int (5 : Int32)), (.ref b1), (.ref b1)])) _
  refine st13 _ ?_
  show Steps p.tables e below (T13.setTop (mkF m 41 #[.val (.int p1), .unset, .unset, .unset, .unset, .unset] [(.ref b1)])) _
  refine XS.dup X13.here hx rfl (hb hby at_41) rfl rfl ?_
  show Steps p.tables e below (T13.setTop (mkF m 42 #[.val (.int p1), .unset, .unset, .unset, .unset, .unset] [(.ref b1), (.ref b1)])) _
  refine XS.bipush X13.here hx rfl (hb hby at_42) ?_
  show Steps p.tables e below (T13.setTop (mkF m 44 #[.val (.int p1), .unset, .unset, .unset, .unset, .unset] [(.int (6 : Int32)), (.ref b1), (.ref b1)])) _
  refine st14 _ ?_
  show Steps p.tables e below (T14.setTop (mkF m 47 #[.val (.int p1), .unset, .unset, .unset, .unset, .unset] [(.ref r6), (.int (6 : Int32)), (.ref b1), (.ref b1)])) _
  refine st15 _ ?_
  show Steps p.tables e below (T15.setTop (mkF m 48 #[.val (.int p1), .unset, .unset, .unset, .unset, .unset] [(.ref b1)])) _
  refine XS.dup X15.here hx rfl (hb hby at_48) rfl rfl ?_
  show Steps p.tables e below (T15.setTop (mkF m 49 #[.val (.int p1), .unset, .unset, .unset, .unset, .unset] [(.ref b1), (.ref b1)])) _
  refine XS.bipush X15.here hx rfl (hb hby at_49) ?_
  show Steps p.tables e below (T15.setTop (mkF m 51 #[.val (.int p1), .unset, .unset, .unset, .unset, .unset] [(.int (7 : Int32)), (.ref b1), (.ref b1)])) _
  refine st16 _ ?_
  show Steps p.tables e below (T16.setTop (mkF m 54 #[.val (.int p1), .unset, .unset, .unset, .unset, .unset] [(.ref r7), (.int (7 : Int32)), (.ref b1), (.ref b1)])) _
  refine st17 _ ?_
  show Steps p.tables e below (T17.setTop (mkF m 55 #[.val (.int p1), .unset, .unset, .unset, .unset, .unset] [(.ref b1)])) _
  refine XS.dup X17.here hx rfl (hb hby at_55) rfl rfl ?_
  show Steps p.tables e below (T17.setTop (mkF m 56 #[.val (.int p1), .unset, .unset, .unset, .unset, .unset] [(.ref b1), (.ref b1)])) _
  refine XS.bipush X17.here hx rfl (hb hby at_56) ?_
  show Steps p.tables e below (T17.setTop (mkF m 58 #[.val (.int p1), .unset, .unset, .unset, .unset, .unset] [(.int (8 : Int32)), (.ref b1), (.ref b1)])) _
  refine st18 _ ?_
  show Steps p.tables e below (T18.setTop (mkF m 61 #[.val (.int p1), .unset, .unset, .unset, .unset, .unset] [(.ref r8), (.int (8 : Int32)), (.ref b1), (.ref b1)])) _
  refine st19 _ ?_
  show Steps p.tables e below (T19.setTop (mkF m 62 #[.val (.int p1), .unset, .unset, .unset, .unset, .unset] [(.ref b1)])) _
  refine XS.dup X19.here hx rfl (hb hby at_62) rfl rfl ?_
  show Steps p.tables e below (T19.setTop (mkF m 63 #[.val (.int p1), .unset, .unset, .unset, .unset, .unset] [(.ref b1), (.ref b1)])) _
  refine XS.bipush X19.here hx rfl (hb hby at_63) ?_
  show Steps p.tables e below (T19.setTop (mkF m 65 #[.val (.int p1), .unset, .unset, .unset, .unset, .unset] [(.int (9 : Int32)), (.ref b1), (.ref b1)])) _
  refine st20 _ ?_
  show Steps p.tables e below (T20.setTop (mkF m 68 #[.val (.int p1), .unset, .unset, .unset, .unset, .unset] [(.ref r9), (.int (9 : Int32)), (.ref b1), (.ref b1)])) _
  refine st21 _ ?_
  show Steps p.tables e below (T21.setTop (mkF m 69 #[.val (.int p1), .unset, .unset, .unset, .unset, .unset] [(.ref b1)])) _
  refine XS.dup X21.here hx rfl (hb hby at_69) rfl rfl ?_
  show Steps p.tables e below (T21.setTop (mkF m 70 #[.val (.int p1), .unset, .unset, .unset, .unset, .unset] [(.ref b1), (.ref b1)])) _
  refine XS.bipush X21.here hx rfl (hb hby at_70) ?_
  show Steps p.tables e below (T21.setTop (mkF m 72 #[.val (.int p1), .unset, .unset, .unset, .unset, .unset] [(.int (10 : Int32)), (.ref b1), (.ref b1)])) _
  refine st22 _ ?_
  show Steps p.tables e below (T22.setTop (mkF m 75 #[.val (.int p1), .unset, .unset, .unset, .unset, .unset] [(.ref r10), (.int (10 : Int32)), (.ref b1), (.ref b1)])) _
  refine st23 _ ?_
  show Steps p.tables e below (T23.setTop (mkF m 76 #[.val (.int p1), .unset, .unset, .unset, .unset, .unset] [(.ref b1)])) _
  refine XS.dup X23.here hx rfl (hb hby at_76) rfl rfl ?_
  show Steps p.tables e below (T23.setTop (mkF m 77 #[.val (.int p1), .unset, .unset, .unset, .unset, .unset] [(.ref b1), (.ref b1)])) _
  refine XS.bipush X23.here hx rfl (hb hby at_77) ?_
  show Steps p.tables e below (T23.setTop (mkF m 79 #[.val (.int p1), .unset, .unset, .unset, .unset, .unset] [(.int (11 : Int32)), (.ref b1), (.ref b1)])) _
  refine st24 _ ?_
  show Steps p.tables e below (T24.setTop (mkF m 82 #[.val (.int p1), .unset, .unset, .unset, .unset, .unset] [(.ref r11), (.int (11 : Int32)), (.ref b1), (.ref b1)])) _
  refine st25 _ ?_
  show Steps p.tables e below (T25.setTop (mkF m 83 #[.val (.int p1), .unset, .unset, .unset, .unset, .unset] [(.ref b1)])) _
  refine XS.dup X25.here hx rfl (hb hby at_83) rfl rfl ?_
  show Steps p.tables e below (T25.setTop (mkF m 84 #[.val (.int p1), .unset, .unset, .unset, .unset, .unset] [(.ref b1), (.ref b1)])) _
  refine XS.bipush X25.here hx rfl (hb hby at_84) ?_
  show Steps p.tables e below (T25.setTop (mkF m 86 #[.val (.int p1), .unset, .unset, .unset, .unset, .unset] [(.int (12 : Int32)), (.ref b1), (.ref b1)])) _
  refine st26 _ ?_
  show Steps p.tables e below (T26.setTop (mkF m 89 #[.val (.int p1), .unset, .unset, .unset, .unset, .unset] [(.ref r12), (.int (12 : Int32)), (.ref b1), (.ref b1)])) _
  refine st27 _ ?_
  show Steps p.tables e below (T27.setTop (mkF m 90 #[.val (.int p1), .unset, .unset, .unset, .unset, .unset] [(.ref b1)])) _
  refine XS.dup X27.here hx rfl (hb hby at_90) rfl rfl ?_
  show Steps p.tables e below (T27.setTop (mkF m 91 #[.val (.int p1), .unset, .unset, .unset, .unset, .unset] [(.ref b1), (.ref b1)])) _
  refine XS.bipush X27.here hx rfl (hb hby at_91) ?_
  show Steps p.tables e below (T27.setTop (mkF m 93 #[.val (.int p1), .unset, .unset, .unset, .unset, .unset] [(.int (13 : Int32)), (.ref b1), (.ref b1)])) _
  refine st28 _ ?_
  show Steps p.tables e below (T28.setTop (mkF m 96 #[.val (.int p1), .unset, .unset, .unset, .unset, .unset] [(.ref r13), (.int (13 : Int32)), (.ref b1), (.ref b1)])) _
  refine st29 _ ?_
  show Steps p.tables e below (T29.setTop (mkF m 97 #[.val (.int p1), .unset, .unset, .unset, .unset, .unset] [(.ref b1)])) _
  refine XS.dup X29.here hx rfl (hb hby at_97) rfl rfl ?_
  show Steps p.tables e below (T29.setTop (mkF m 98 #[.val (.int p1), .unset, .unset, .unset, .unset, .unset] [(.ref b1), (.ref b1)])) _
  refine XS.bipush X29.here hx rfl (hb hby at_98) ?_
  show Steps p.tables e below (T29.setTop (mkF m 100 #[.val (.int p1), .unset, .unset, .unset, .unset, .unset] [(.int (14 : Int32)), (.ref b1), (.ref b1)])) _
  refine st30 _ ?_
  show Steps p.tables e below (T30.setTop (mkF m 103 #[.val (.int p1), .unset, .unset, .unset, .unset, .unset] [(.ref r14), (.int (14 : Int32)), (.ref b1), (.ref b1)])) _
  refine st31 _ ?_
  show Steps p.tables e below (T31.setTop (mkF m 104 #[.val (.int p1), .unset, .unset, .unset, .unset, .unset] [(.ref b1)])) _
  refine XS.dup X31.here hx rfl (hb hby at_104) rfl rfl ?_
  show Steps p.tables e below (T31.setTop (mkF m 105 #[.val (.int p1), .unset, .unset, .unset, .unset, .unset] [(.ref b1), (.ref b1)])) _
  refine XS.bipush X31.here hx rfl (hb hby at_105) ?_
  show Steps p.tables e below (T31.setTop (mkF m 107 #[.val (.int p1), .unset, .unset, .unset, .unset, .unset] [(.int (15 : Int32)), (.ref b1), (.ref b1)])) _
  refine st32 _ ?_
  show Steps p.tables e below (T32.setTop (mkF m 110 #[.val (.int p1), .unset, .unset, .unset, .unset, .unset] [(.ref r15), (.int (15 : Int32)), (.ref b1), (.ref b1)])) _
  refine st33 _ ?_
  show Steps p.tables e below (T33.setTop (mkF m 111 #[.val (.int p1), .unset, .unset, .unset, .unset, .unset] [(.ref b1)])) _
  refine XS.dup X33.here hx rfl (hb hby at_111) rfl rfl ?_
  show Steps p.tables e below (T33.setTop (mkF m 112 #[.val (.int p1), .unset, .unset, .unset, .unset, .unset] [(.ref b1), (.ref b1)])) _
  refine XS.bipush X33.here hx rfl (hb hby at_112) ?_
  show Steps p.tables e below (T33.setTop (mkF m 114 #[.val (.int p1), .unset, .unset, .unset, .unset, .unset] [(.int (16 : Int32)), (.ref b1), (.ref b1)])) _
  refine st34 _ ?_
  show Steps p.tables e below (T34.setTop (mkF m 117 #[.val (.int p1), .unset, .unset, .unset, .unset, .unset] [(.ref r16), (.int (16 : Int32)), (.ref b1), (.ref b1)])) _
  refine st35 _ ?_
  show Steps p.tables e below (T35.setTop (mkF m 118 #[.val (.int p1), .unset, .unset, .unset, .unset, .unset] [(.ref b1)])) _
  refine XS.dup X35.here hx rfl (hb hby at_118) rfl rfl ?_
  show Steps p.tables e below (T35.setTop (mkF m 119 #[.val (.int p1), .unset, .unset, .unset, .unset, .unset] [(.ref b1), (.ref b1)])) _
  refine XS.bipush X35.here hx rfl (hb hby at_119) ?_
  show Steps p.tables e below (T35.setTop (mkF m 121 #[.val (.int p1), .unset, .unset, .unset, .unset, .unset] [(.int (17 : Int32)), (.ref b1), (.ref b1)])) _
  refine st36 _ ?_
  show Steps p.tables e below (T36.setTop (mkF m 124 #[.val (.int p1), .unset, .unset, .unset, .unset, .unset] [(.ref r17), (.int (17 : Int32)), (.ref b1), (.ref b1)])) _
  refine st37 _ ?_
  show Steps p.tables e below (T37.setTop (mkF m 125 #[.val (.int p1), .unset, .unset, .unset, .unset, .unset] [(.ref b1)])) _
  refine XS.dup X37.here hx rfl (hb hby at_125) rfl rfl ?_
  show Steps p.tables e below (T37.setTop (mkF m 126 #[.val (.int p1), .unset, .unset, .unset, .unset, .unset] [(.ref b1), (.ref b1)])) _
  refine XS.bipush X37.here hx rfl (hb hby at_126) ?_
  show Steps p.tables e below (T37.setTop (mkF m 128 #[.val (.int p1), .unset, .unset, .unset, .unset, .unset] [(.int (18 : Int32)), (.ref b1), (.ref b1)])) _
  refine st38 _ ?_
  show Steps p.tables e below (T38.setTop (mkF m 131 #[.val (.int p1), .unset, .unset, .unset, .unset, .unset] [(.ref r18), (.int (18 : Int32)), (.ref b1), (.ref b1)])) _
  refine st39 _ ?_
  show Steps p.tables e below (T39.setTop (mkF m 132 #[.val (.int p1), .unset, .unset, .unset, .unset, .unset] [(.ref b1)])) _
  refine XS.dup X39.here hx rfl (hb hby at_132) rfl rfl ?_
  show Steps p.tables e below (T39.setTop (mkF m 133 #[.val (.int p1), .unset, .unset, .unset, .unset, .unset] [(.ref b1), (.ref b1)])) _
  refine XS.bipush X39.here hx rfl (hb hby at_133) ?_
  show Steps p.tables e below (T39.setTop (mkF m 135 #[.val (.int p1), .unset, .unset, .unset, .unset, .unset] [(.int (19 : Int32)), (.ref b1), (.ref b1)])) _
  refine st40 _ ?_
  show Steps p.tables e below (T40.setTop (mkF m 138 #[.val (.int p1), .unset, .unset, .unset, .unset, .unset] [(.ref r19), (.int (19 : Int32)), (.ref b1), (.ref b1)])) _
  refine st41 _ ?_
  show Steps p.tables e below (T41.setTop (mkF m 139 #[.val (.int p1), .unset, .unset, .unset, .unset, .unset] [(.ref b1)])) _
  refine XS.dup X41.here hx rfl (hb hby at_139) rfl rfl ?_
  show Steps p.tables e below (T41.setTop (mkF m 140 #[.val (.int p1), .unset, .unset, .unset, .unset, .unset] [(.ref b1), (.ref b1)])) _
  refine XS.bipush X41.here hx rfl (hb hby at_140) ?_
  show Steps p.tables e below (T41.setTop (mkF m 142 #[.val (.int p1), .unset, .unset, .unset, .unset, .unset] [(.int (20 : Int32)), (.ref b1), (.ref b1)])) _
  refine st42 _ ?_
  show Steps p.tables e below (T42.setTop (mkF m 145 #[.val (.int p1), .unset, .unset, .unset, .unset, .unset] [(.ref r20), (.int (20 : Int32)), (.ref b1), (.ref b1)])) _
  refine st43 _ ?_
  show Steps p.tables e below (T43.setTop (mkF m 146 #[.val (.int p1), .unset, .unset, .unset, .unset, .unset] [(.ref b1)])) _
  refine XS.dup X43.here hx rfl (hb hby at_146) rfl rfl ?_
  show Steps p.tables e below (T43.setTop (mkF m 147 #[.val (.int p1), .unset, .unset, .unset, .unset, .unset] [(.ref b1), (.ref b1)])) _
  refine XS.bipush X43.here hx rfl (hb hby at_147) ?_
  show Steps p.tables e below (T43.setTop (mkF m 149 #[.val (.int p1), .unset, .unset, .unset, .unset, .unset] [(.int (21 : Int32)), (.ref b1), (.ref b1)])) _
  refine st44 _ ?_
  show Steps p.tables e below (T44.setTop (mkF m 152 #[.val (.int p1), .unset, .unset, .unset, .unset, .unset] [(.ref r21), (.int (21 : Int32)), (.ref b1), (.ref b1)])) _
  refine st45 _ ?_
  show Steps p.tables e below (T45.setTop (mkF m 153 #[.val (.int p1), .unset, .unset, .unset, .unset, .unset] [(.ref b1)])) _
  refine XS.dup X45.here hx rfl (hb hby at_153) rfl rfl ?_
  show Steps p.tables e below (T45.setTop (mkF m 154 #[.val (.int p1), .unset, .unset, .unset, .unset, .unset] [(.ref b1), (.ref b1)])) _
  refine XS.bipush X45.here hx rfl (hb hby at_154) ?_
  show Steps p.tables e below (T45.setTop (mkF m 156 #[.val (.int p1), .unset, .unset, .unset, .unset, .unset] [(.int (22 : Int32)), (.ref b1), (.ref b1)])) _
  refine st46 _ ?_
  show Steps p.tables e below (T46.setTop (mkF m 159 #[.val (.int p1), .unset, .unset, .unset, .unset, .unset] [(.ref r22), (.int (22 : Int32)), (.ref b1), (.ref b1)])) _
  refine st47 _ ?_
  show Steps p.tables e below (T47.setTop (mkF m 160 #[.val (.int p1), .unset, .unset, .unset, .unset, .unset] [(.ref b1)])) _
  refine XS.dup X47.here hx rfl (hb hby at_160) rfl rfl ?_
  show Steps p.tables e below (T47.setTop (mkF m 161 #[.val (.int p1), .unset, .unset, .unset, .unset, .unset] [(.ref b1), (.ref b1)])) _
  refine XS.bipush X47.here hx rfl (hb hby at_161) ?_
  show Steps p.tables e below (T47.setTop (mkF m 163 #[.val (.int p1), .unset, .unset, .unset, .unset, .unset] [(.int (23 : Int32)), (.ref b1), (.ref b1)])) _
  refine st48 _ ?_
  show Steps p.tables e below (T48.setTop (mkF m 166 #[.val (.int p1), .unset, .unset, .unset, .unset, .unset] [(.ref r23), (.int (23 : Int32)), (.ref b1), (.ref b1)])) _
  refine st49 _ ?_
  show Steps p.tables e below (T49.setTop (mkF m 167 #[.val (.int p1), .unset, .unset, .unset, .unset, .unset] [(.ref b1)])) _
  refine XS.dup X49.here hx rfl (hb hby at_167) rfl rfl ?_
  show Steps p.tables e below (T49.setTop (mkF m 168 #[.val (.int p1), .unset, .unset, .unset, .unset, .unset] [(.ref b1), (.ref b1)])) _
  refine XS.bipush X49.here hx rfl (hb hby at_168) ?_
  show Steps p.tables e below (T49.setTop (mkF m 170 #[.val (.int p1), .unset, .unset, .unset, .unset, .unset] [(.int (24 : Int32)), (.ref b1), (.ref b1)])) _
  refine st50 _ ?_
  show Steps p.tables e below (T50.setTop (mkF m 173 #[.val (.int p1), .unset, .unset, .unset, .unset, .unset] [(.ref r24), (.int (24 : Int32)), (.ref b1), (.ref b1)])) _
  refine st51 _ ?_
  show Steps p.tables e below (T51.setTop (mkF m 174 #[.val (.int p1), .unset, .unset, .unset, .unset, .unset] [(.ref b1)])) _
  refine XS.dup X51.here hx rfl (hb hby at_174) rfl rfl ?_
  show Steps p.tables e below (T51.setTop (mkF m 175 #[.val (.int p1), .unset, .unset, .unset, .unset, .unset] [(.ref b1), (.ref b1)])) _
  refine XS.bipush X51.here hx rfl (hb hby at_175) ?_
  show Steps p.tables e below (T51.setTop (mkF m 177 #[.val (.int p1), .unset, .unset, .unset, .unset, .unset] [(.int (25 : Int32)), (.ref b1), (.ref b1)])) _
  refine st52 _ ?_
  show Steps p.tables e below (T52.setTop (mkF m 180 #[.val (.int p1), .unset, .unset, .unset, .unset, .unset] [(.ref r25), (.int (25 : Int32)), (.ref b1), (.ref b1)])) _
  refine st53 _ ?_
  show Steps p.tables e below (T53.setTop (mkF m 181 #[.val (.int p1), .unset, .unset, .unset, .unset, .unset] [(.ref b1)])) _
  refine XS.dup X53.here hx rfl (hb hby at_181) rfl rfl ?_
  show Steps p.tables e below (T53.setTop (mkF m 182 #[.val (.int p1), .unset, .unset, .unset, .unset, .unset] [(.ref b1), (.ref b1)])) _
  refine XS.bipush X53.here hx rfl (hb hby at_182) ?_
  show Steps p.tables e below (T53.setTop (mkF m 184 #[.val (.int p1), .unset, .unset, .unset, .unset, .unset] [(.int (26 : Int32)), (.ref b1), (.ref b1)])) _
  refine st54 _ ?_
  show Steps p.tables e below (T54.setTop (mkF m 187 #[.val (.int p1), .unset, .unset, .unset, .unset, .unset] [(.ref r26), (.int (26 : Int32)), (.ref b1), (.ref b1)])) _
  refine st55 _ ?_
  show Steps p.tables e below (T55.setTop (mkF m 188 #[.val (.int p1), .unset, .unset, .unset, .unset, .unset] [(.ref b1)])) _
  refine XS.astoreN X55.here hx rfl (hb hby at_188) rfl rfl (l' := #[.val (.int p1), .val (.ref b1), .unset, .unset, .unset, .unset]) rfl ?_
  show Steps p.tables e below (T55.setTop (mkF m 189 #[.val (.int p1), .val (.ref b1), .unset, .unset, .unset, .unset] [])) _
  refine XS.iloadN X55.here hx rfl (hb hby at_189) rfl ?_
  show Steps p.tables e below (T55.setTop (mkF m 190 #[.val (.int p1), .val (.ref b1), .unset, .unset, .unset, .unset] [(.int p1)])) _
  refine X55.ldcInt hx hown (mvT hZ (hw _ (List.mem_of_getElem? (i := 58) rfl))) (g := (mkF m 190 #[.val (.int p1), .val (.ref b1), .unset, .unset, .unset, .unset] [(.int p1)])) rfl (hb hby at_190) _ ?_
  show Steps p.tables e below (T55.setTop (mkF m 192 #[.val (.int p1), .val (.ref b1), .unset, .unset, .unset, .unset] [(.int (2147483647 : Int32)), (.int p1)])) _
  refine XS.iand X55.here hx rfl (hb hby at_192) rfl ?_
  show Steps p.tables e below (T55.setTop (mkF m 193 #[.val (.int p1), .val (.ref b1), .unset, .unset, .unset, .unset] [(.int (p1 &&& (2147483647 : Int32)))])) _
  refine XS.bipush X55.here hx rfl (hb hby at_193) ?_
  show Steps p.tables e below (T55.setTop (mkF m 195 #[.val (.int p1), .val (.ref b1), .unset, .unset, .unset, .unset] [(.int (27 : Int32)), (.int (p1 &&& (2147483647 : Int32)))])) _
  refine iremM X55 hx rfl (hb hby at_195) rfl (by decide) ?_
  show Steps p.tables e below (T55.setTop (mkF m 196 #[.val (.int p1), .val (.ref b1), .unset, .unset, .unset, .unset] [(.int ((p1 &&& (2147483647 : Int32)) % (27 : Int32)))])) _
  refine XS.istoreN X55.here hx rfl (hb hby at_196) rfl (l' := #[.val (.int p1), .val (.ref b1), .val (.int ((p1 &&& (2147483647 : Int32)) % (27 : Int32))), .unset, .unset, .unset]) rfl ?_
  exact kt
theorem pd_0 : parseMethodDescriptor "()Z" = some ⟨[], some .boolean⟩ := by decide +kernel
theorem pd_1 : parseMethodDescriptor "()Ljava/lang/String;" = some ⟨[], some (.object "java/lang/String")⟩ := by decide +kernel
set_option maxRecDepth 65536 in
set_option maxHeartbeats 40000000 in
theorem own_tr {p : Program} {l : Launch} {e : Env} {s : State} {m : MethodId} {args : Array Value} {below : List Frame} {meth : Method} {c : Code} {T0 : State} {locs : List Loc} {Z : State} {a0 : Array Value} {h0 : Heap} {n0 : Nat} (p1 : Int32) (b r : Addr) (J : Int32) (u : Addr) (cl : Cell)
    (X0 : Stand p l e room_1 s m args below meth c T0 locs 1 27) (hx : p.tables.exec = Jvm.exec) (hZ : Z.Warmed39 s.vm) (hw : ∀ d ∈ tables_1, d.before a0 Z = true) (hby : c.code = code) (hml : c.maxLocals = 6) (hown : s.vm.findClass "com/example/entente/entente/OptionTakesValuePinLaw" = some m.cls) (e0 : T0.heap = h0) (Z0 : n0 ≤ h0.size) (N0 : Fr n0 locs) (E_r : Exa Z h0 r "com/example/entente/entente/Option") (F_r : Fld Z h0 r "com/example/entente/entente/Option" "value" "Ljava/lang/String;" (.ref u)) (Ar : Arr Z h0 b cl (.object "com/example/entente/entente/Option")) (hin : ¬ (J < 0 ∨ cl.slots.size ≤ (J).toNatClampNeg)) (hat : cl.slots[(J).toNatClampNeg]? = some (.ref r)) (j7 : ¬ (J = (7 : Int32))) (j8 : ¬ (J = (8 : Int32))) (j26 : ¬ (J = (26 : Int32))) :
    ∃ (T' : State) (L' : List Loc), Stand p l e room_1 s m args below meth c T' L' 1 27 ∧ Fr n0 L' ∧ T'.heap = h0 ∧ ∀ target, Steps p.tables e below (T'.setTop (mkF m 269 #[.val (.int p1), .val (.ref b), .val (.int J), .val (.ref r), .val (.int (0 : Int32)), .val (.int (1 : Int32))] [(.int (1 : Int32))])) target → Steps p.tables e below (T0.setTop (mkF m 197 #[.val (.int p1), .val (.ref b), .val (.int J), .unset, .unset, .unset] [])) target := by
  obtain ⟨cq1, kq1, q1a, q1b, q1c⟩ := isOf hZ e0 E_r
  obtain ⟨_, _, ⟨T1, L1, k1, n1⟩, -, X1, ⟨Lc1, hQ1, l1, y1, z1⟩, st1⟩ := X0.virtualBack hx (y := (⟨"com/example/entente/entente/Option", "takesValue", "()Z"⟩ : MethodName)) (z := (⟨"com/example/entente/entente/Option", "takesValue", "()Z"⟩ : MethodName)) hown (mvT hZ (hw _ (List.mem_of_getElem? (i := 59) rfl))) (mvT hZ (hw _ (List.mem_of_getElem? (i := 60) rfl))) (notFace_of_selects (args := #[]) (mvT hZ (hw _ (List.mem_of_getElem? (i := 62) rfl)))) (mvT hZ (hw _ (List.mem_of_getElem? (i := 62) rfl))) (mvT hZ (hw _ (List.mem_of_getElem? (i := 61) rfl))) (by decide) (backOf (W := 0) (rmTr l Z a0 hw [] r u h0 n0 Z0 F_r) hZ (hw _ (List.mem_of_getElem? (i := 63) rfl)) (hw _ (List.mem_of_getElem? (i := 3) rfl)) (by decide) (by decide)) q1a q1c (g := (mkF m 227 #[.val (.int p1), .val (.ref b), .val (.int J), .val (.ref r), .val (.int (0 : Int32)), .unset] [(.ref r)])) rfl (by rw [hml]; rfl) (Steps.refl _) (argsL := []) (rest := []) (lenOf pd_0 rfl) rfl (by show 2 * 0 + _ ≤ _; exact Nat.le_of_eq rfl) (hb hby at_227) (fun _ _ => ⟨rfl, e0, (by decide : 1 + 0 ≤ _), (by decide : 27 + 0 ≤ _)⟩)
  dsimp only [Pt.U, Pt.locs, Pt.cells, Pt.slots] at X1 l1 y1 z1 st1 hQ1
  subst l1 y1 z1
  obtain ⟨rfl, N1q, e1⟩ := hQ1
  have N1 := Fr.app N0 N1q
  obtain ⟨cq2, kq2, q2a, q2b, q2c⟩ := isOf hZ e1 E_r
  obtain ⟨_, _, ⟨T2, L2, k2, n2⟩, -, X2, ⟨Lc2, hQ2, l2, y2, z2⟩, st2⟩ := X1.virtualBack hx (y := (⟨"com/example/entente/entente/Option", "value", "()Ljava/lang/String;"⟩ : MethodName)) (z := (⟨"com/example/entente/entente/Option", "value", "()Ljava/lang/String;"⟩ : MethodName)) hown (mvT hZ (hw _ (List.mem_of_getElem? (i := 66) rfl))) (mvT hZ (hw _ (List.mem_of_getElem? (i := 67) rfl))) (notFace_of_selects (args := #[]) (mvT hZ (hw _ (List.mem_of_getElem? (i := 69) rfl)))) (mvT hZ (hw _ (List.mem_of_getElem? (i := 69) rfl))) (mvT hZ (hw _ (List.mem_of_getElem? (i := 68) rfl))) (by decide) (backOf (W := 1) (rmVr l Z a0 hw [] r u h0 n0 Z0 F_r) hZ (hw _ (List.mem_of_getElem? (i := 70) rfl)) (hw _ (List.mem_of_getElem? (i := 3) rfl)) (by decide) (by decide)) q2a q2c (g := (mkF m 250 #[.val (.int p1), .val (.ref b), .val (.int J), .val (.ref r), .val (.int (0 : Int32)), .val (.int (1 : Int32))] [(.ref r), (.int (1 : Int32))])) rfl (by rw [hml]; rfl) (Steps.refl _) (argsL := []) (rest := [(.int (1 : Int32))]) (lenOf pd_1 rfl) rfl (by show 2 * 0 + _ ≤ _; exact Nat.le_of_eq rfl) (hb hby at_250) (fun _ _ => ⟨rfl, e1, (by decide : 1 + 0 ≤ _), (by decide : 27 + 0 ≤ _)⟩)
  dsimp only [Pt.U, Pt.locs, Pt.cells, Pt.slots] at X2 l2 y2 z2 st2 hQ2
  subst l2 y2 z2
  obtain ⟨rfl, N2q, e2⟩ := hQ2
  have N2 := Fr.app N1 N2q
  refine ⟨T2, _, X2, N2, e2, fun target kt => ?_⟩
  show Steps p.tables e below (T0.setTop (mkF m 197 #[.val (.int p1), .val (.ref b), .val (.int J), .unset, .unset, .unset] [])) _
  refine XS.aloadN X0.here hx rfl (hb hby at_197) rfl rfl ?_
  show Steps p.tables e below (T0.setTop (mkF m 198 #[.val (.int p1), .val (.ref b), .val (.int J), .unset, .unset, .unset] [(.ref b)])) _
  refine XS.iloadN X0.here hx rfl (hb hby at_198) rfl ?_
  show Steps p.tables e below (T0.setTop (mkF m 199 #[.val (.int p1), .val (.ref b), .val (.int J), .unset, .unset, .unset] [(.int J), (.ref b)])) _
  refine X0.aaload hx (j := J) (v := (.ref r)) (by rw [e0]; exact Ar.1) (State.isArrayOf_alike hZ.alike Ar.2.1) rfl Ar.2.2 hin hat (g := (mkF m 199 #[.val (.int p1), .val (.ref b), .val (.int J), .unset, .unset, .unset] [(.int J), (.ref b)])) rfl rfl (hb hby at_199) _ ?_
  show Steps p.tables e below (T0.setTop (mkF m 200 #[.val (.int p1), .val (.ref b), .val (.int J), .unset, .unset, .unset] [(.ref r)])) _
  refine XS.astoreN X0.here hx rfl (hb hby at_200) rfl rfl (l' := #[.val (.int p1), .val (.ref b), .val (.int J), .val (.ref r), .unset, .unset]) rfl ?_
  show Steps p.tables e below (T0.setTop (mkF m 201 #[.val (.int p1), .val (.ref b), .val (.int J), .val (.ref r), .unset, .unset] [])) _
  refine XS.iloadN X0.here hx rfl (hb hby at_201) rfl ?_
  show Steps p.tables e below (T0.setTop (mkF m 202 #[.val (.int p1), .val (.ref b), .val (.int J), .val (.ref r), .unset, .unset] [(.int J)])) _
  refine XS.bipush X0.here hx rfl (hb hby at_202) ?_
  show Steps p.tables e below (T0.setTop (mkF m 204 #[.val (.int p1), .val (.ref b), .val (.int J), .val (.ref r), .unset, .unset] [(.int (7 : Int32)), (.int J)])) _
  refine XS.icmpNo X0.here hx rfl (hb hby at_204) rfl (feq (j7 : ¬ (J = (7 : Int32)))).1 ?_
  show Steps p.tables e below (T0.setTop (mkF m 207 #[.val (.int p1), .val (.ref b), .val (.int J), .val (.ref r), .unset, .unset] [])) _
  refine XS.iloadN X0.here hx rfl (hb hby at_207) rfl ?_
  show Steps p.tables e below (T0.setTop (mkF m 208 #[.val (.int p1), .val (.ref b), .val (.int J), .val (.ref r), .unset, .unset] [(.int J)])) _
  refine XS.bipush X0.here hx rfl (hb hby at_208) ?_
  show Steps p.tables e below (T0.setTop (mkF m 210 #[.val (.int p1), .val (.ref b), .val (.int J), .val (.ref r), .unset, .unset] [(.int (8 : Int32)), (.int J)])) _
  refine XS.icmpNo X0.here hx rfl (hb hby at_210) rfl (feq (j8 : ¬ (J = (8 : Int32)))).1 ?_
  show Steps p.tables e below (T0.setTop (mkF m 213 #[.val (.int p1), .val (.ref b), .val (.int J), .val (.ref r), .unset, .unset] [])) _
  refine XS.iloadN X0.here hx rfl (hb hby at_213) rfl ?_
  show Steps p.tables e below (T0.setTop (mkF m 214 #[.val (.int p1), .val (.ref b), .val (.int J), .val (.ref r), .unset, .unset] [(.int J)])) _
  refine XS.bipush X0.here hx rfl (hb hby at_214) ?_
  show Steps p.tables e below (T0.setTop (mkF m 216 #[.val (.int p1), .val (.ref b), .val (.int J), .val (.ref r), .unset, .unset] [(.int (26 : Int32)), (.int J)])) _
  refine XS.icmpYes X0.here hx rfl (pc0 := 216) (pc' := 223) rfl (hb hby at_216) rfl (feq (j26 : ¬ (J = (26 : Int32)))).2 (by decide) (by decide) ?_
  show Steps p.tables e below (T0.setTop (mkF m 223 #[.val (.int p1), .val (.ref b), .val (.int J), .val (.ref r), .unset, .unset] [])) _
  refine XS.iconst X0.here hx rfl (hb hby at_223) ?_
  show Steps p.tables e below (T0.setTop (mkF m 224 #[.val (.int p1), .val (.ref b), .val (.int J), .val (.ref r), .unset, .unset] [(.int (0 : Int32))])) _
  refine XS.istore X0.here hx rfl (hb hby at_224) rfl (l' := #[.val (.int p1), .val (.ref b), .val (.int J), .val (.ref r), .val (.int (0 : Int32)), .unset]) rfl ?_
  show Steps p.tables e below (T0.setTop (mkF m 226 #[.val (.int p1), .val (.ref b), .val (.int J), .val (.ref r), .val (.int (0 : Int32)), .unset] [])) _
  refine XS.aloadN X0.here hx rfl (hb hby at_226) rfl rfl ?_
  show Steps p.tables e below (T0.setTop (mkF m 227 #[.val (.int p1), .val (.ref b), .val (.int J), .val (.ref r), .val (.int (0 : Int32)), .unset] [(.ref r)])) _
  refine st1.trans ?_
  show Steps p.tables e below (T1.setTop (mkF m 230 #[.val (.int p1), .val (.ref b), .val (.int J), .val (.ref r), .val (.int (0 : Int32)), .unset] [(.int (1 : Int32))])) _
  refine XS.istore X1.here hx rfl (hb hby at_230) rfl (l' := #[.val (.int p1), .val (.ref b), .val (.int J), .val (.ref r), .val (.int (0 : Int32)), .val (.int (1 : Int32))]) rfl ?_
  show Steps p.tables e below (T1.setTop (mkF m 232 #[.val (.int p1), .val (.ref b), .val (.int J), .val (.ref r), .val (.int (0 : Int32)), .val (.int (1 : Int32))] [])) _
  refine XS.iload X1.here hx rfl (hb hby at_232) rfl ?_
  show Steps p.tables e below (T1.setTop (mkF m 234 #[.val (.int p1), .val (.ref b), .val (.int J), .val (.ref r), .val (.int (0 : Int32)), .val (.int (1 : Int32))] [(.int (1 : Int32))])) _
  refine XS.iload X1.here hx rfl (hb hby at_234) rfl ?_
  show Steps p.tables e below (T1.setTop (mkF m 236 #[.val (.int p1), .val (.ref b), .val (.int J), .val (.ref r), .val (.int (0 : Int32)), .val (.int (1 : Int32))] [(.int (0 : Int32)), (.int (1 : Int32))])) _
  refine XS.ifNo X1.here hx rfl (hb hby at_236) rfl ((if0 _ _).trans (teq (by decide : (0 : Int32) = (0 : Int32))).2) ?_
  show Steps p.tables e below (T1.setTop (mkF m 239 #[.val (.int p1), .val (.ref b), .val (.int J), .val (.ref r), .val (.int (0 : Int32)), .val (.int (1 : Int32))] [(.int (1 : Int32))])) _
  refine XS.iconst X1.here hx rfl (hb hby at_239) ?_
  show Steps p.tables e below (T1.setTop (mkF m 240 #[.val (.int p1), .val (.ref b), .val (.int J), .val (.ref r), .val (.int (0 : Int32)), .val (.int (1 : Int32))] [(.int (1 : Int32)), (.int (1 : Int32))])) _
  refine XS.goto X1.here hx rfl (pc0 := 240) (pc' := 244) rfl (hb hby at_240) (by decide) (by decide) ?_
  show Steps p.tables e below (T1.setTop (mkF m 244 #[.val (.int p1), .val (.ref b), .val (.int J), .val (.ref r), .val (.int (0 : Int32)), .val (.int (1 : Int32))] [(.int (1 : Int32)), (.int (1 : Int32))])) _
  refine XS.icmpNo X1.here hx rfl (hb hby at_244) rfl (teq (rfl : (1 : Int32) = (1 : Int32))).2 ?_
  show Steps p.tables e below (T1.setTop (mkF m 247 #[.val (.int p1), .val (.ref b), .val (.int J), .val (.ref r), .val (.int (0 : Int32)), .val (.int (1 : Int32))] [])) _
  refine XS.iload X1.here hx rfl (hb hby at_247) rfl ?_
  show Steps p.tables e below (T1.setTop (mkF m 249 #[.val (.int p1), .val (.ref b), .val (.int J), .val (.ref r), .val (.int (0 : Int32)), .val (.int (1 : Int32))] [(.int (1 : Int32))])) _
  refine XS.aloadN X1.here hx rfl (hb hby at_249) rfl rfl ?_
  show Steps p.tables e below (T1.setTop (mkF m 250 #[.val (.int p1), .val (.ref b), .val (.int J), .val (.ref r), .val (.int (0 : Int32)), .val (.int (1 : Int32))] [(.ref r), (.int (1 : Int32))])) _
  refine st2.trans ?_
  show Steps p.tables e below (T2.setTop (mkF m 253 #[.val (.int p1), .val (.ref b), .val (.int J), .val (.ref r), .val (.int (0 : Int32)), .val (.int (1 : Int32))] [(.ref u), (.int (1 : Int32))])) _
  refine XS.ifnullNo X2.here hx rfl (hb hby at_253) rfl ?_
  show Steps p.tables e below (T2.setTop (mkF m 256 #[.val (.int p1), .val (.ref b), .val (.int J), .val (.ref r), .val (.int (0 : Int32)), .val (.int (1 : Int32))] [(.int (1 : Int32))])) _
  refine XS.iconst X2.here hx rfl (hb hby at_256) ?_
  show Steps p.tables e below (T2.setTop (mkF m 257 #[.val (.int p1), .val (.ref b), .val (.int J), .val (.ref r), .val (.int (0 : Int32)), .val (.int (1 : Int32))] [(.int (1 : Int32)), (.int (1 : Int32))])) _
  refine XS.goto X2.here hx rfl (pc0 := 257) (pc' := 261) rfl (hb hby at_257) (by decide) (by decide) ?_
  show Steps p.tables e below (T2.setTop (mkF m 261 #[.val (.int p1), .val (.ref b), .val (.int J), .val (.ref r), .val (.int (0 : Int32)), .val (.int (1 : Int32))] [(.int (1 : Int32)), (.int (1 : Int32))])) _
  refine XS.icmpNo X2.here hx rfl (hb hby at_261) rfl (teq (rfl : (1 : Int32) = (1 : Int32))).2 ?_
  show Steps p.tables e below (T2.setTop (mkF m 264 #[.val (.int p1), .val (.ref b), .val (.int J), .val (.ref r), .val (.int (0 : Int32)), .val (.int (1 : Int32))] [])) _
  refine XS.iconst X2.here hx rfl (hb hby at_264) ?_
  show Steps p.tables e below (T2.setTop (mkF m 265 #[.val (.int p1), .val (.ref b), .val (.int J), .val (.ref r), .val (.int (0 : Int32)), .val (.int (1 : Int32))] [(.int (1 : Int32))])) _
  refine XS.goto X2.here hx rfl (pc0 := 265) (pc' := 269) rfl (hb hby at_265) (by decide) (by decide) ?_
  exact kt
set_option maxRecDepth 65536 in
set_option maxHeartbeats 40000000 in
theorem own_t7 {p : Program} {l : Launch} {e : Env} {s : State} {m : MethodId} {args : Array Value} {below : List Frame} {meth : Method} {c : Code} {T0 : State} {locs : List Loc} {Z : State} {a0 : Array Value} {h0 : Heap} {n0 : Nat} (p1 : Int32) (b r : Addr) (cl : Cell)
    (X0 : Stand p l e room_1 s m args below meth c T0 locs 1 27) (hx : p.tables.exec = Jvm.exec) (hZ : Z.Warmed39 s.vm) (hw : ∀ d ∈ tables_1, d.before a0 Z = true) (hby : c.code = code) (hml : c.maxLocals = 6) (hown : s.vm.findClass "com/example/entente/entente/OptionTakesValuePinLaw" = some m.cls) (e0 : T0.heap = h0) (Z0 : n0 ≤ h0.size) (N0 : Fr n0 locs) (E_r : Exa Z h0 r "com/example/entente/entente/Option") (F_r : Fld Z h0 r "com/example/entente/entente/Option" "value" "Ljava/lang/String;" .null) (Ar : Arr Z h0 b cl (.object "com/example/entente/entente/Option")) (hin : ¬ ((7 : Int32) < 0 ∨ cl.slots.size ≤ ((7 : Int32)).toNatClampNeg)) (hat : cl.slots[((7 : Int32)).toNatClampNeg]? = some (.ref r)) :
    ∃ (T' : State) (L' : List Loc), Stand p l e room_1 s m args below meth c T' L' 1 27 ∧ Fr n0 L' ∧ T'.heap = h0 ∧ ∀ target, Steps p.tables e below (T'.setTop (mkF m 269 #[.val (.int p1), .val (.ref b), .val (.int (7 : Int32)), .val (.ref r), .val (.int (1 : Int32)), .val (.int (0 : Int32))] [(.int (1 : Int32))])) target → Steps p.tables e below (T0.setTop (mkF m 197 #[.val (.int p1), .val (.ref b), .val (.int (7 : Int32)), .unset, .unset, .unset] [])) target := by
  obtain ⟨cq1, kq1, q1a, q1b, q1c⟩ := isOf hZ e0 E_r
  obtain ⟨_, _, ⟨T1, L1, k1, n1⟩, -, X1, ⟨Lc1, hQ1, l1, y1, z1⟩, st1⟩ := X0.virtualBack hx (y := (⟨"com/example/entente/entente/Option", "takesValue", "()Z"⟩ : MethodName)) (z := (⟨"com/example/entente/entente/Option", "takesValue", "()Z"⟩ : MethodName)) hown (mvT hZ (hw _ (List.mem_of_getElem? (i := 59) rfl))) (mvT hZ (hw _ (List.mem_of_getElem? (i := 60) rfl))) (notFace_of_selects (args := #[]) (mvT hZ (hw _ (List.mem_of_getElem? (i := 62) rfl)))) (mvT hZ (hw _ (List.mem_of_getElem? (i := 62) rfl))) (mvT hZ (hw _ (List.mem_of_getElem? (i := 61) rfl))) (by decide) (backOf (W := 0) (rmTn l Z a0 hw [] r  h0 n0 Z0 F_r) hZ (hw _ (List.mem_of_getElem? (i := 63) rfl)) (hw _ (List.mem_of_getElem? (i := 3) rfl)) (by decide) (by decide)) q1a q1c (g := (mkF m 227 #[.val (.int p1), .val (.ref b), .val (.int (7 : Int32)), .val (.ref r), .val (.int (1 : Int32)), .unset] [(.ref r)])) rfl (by rw [hml]; rfl) (Steps.refl _) (argsL := []) (rest := []) (lenOf pd_0 rfl) rfl (by show 2 * 0 + _ ≤ _; exact Nat.le_of_eq rfl) (hb hby at_227) (fun _ _ => ⟨rfl, e0, (by decide : 1 + 0 ≤ _), (by decide : 27 + 0 ≤ _)⟩)
  dsimp only [Pt.U, Pt.locs, Pt.cells, Pt.slots] at X1 l1 y1 z1 st1 hQ1
  subst l1 y1 z1
  obtain ⟨rfl, N1q, e1⟩ := hQ1
  have N1 := Fr.app N0 N1q
  obtain ⟨cq2, kq2, q2a, q2b, q2c⟩ := isOf hZ e1 E_r
  obtain ⟨_, _, ⟨T2, L2, k2, n2⟩, -, X2, ⟨Lc2, hQ2, l2, y2, z2⟩, st2⟩ := X1.virtualBack hx (y := (⟨"com/example/entente/entente/Option", "value", "()Ljava/lang/String;"⟩ : MethodName)) (z := (⟨"com/example/entente/entente/Option", "value", "()Ljava/lang/String;"⟩ : MethodName)) hown (mvT hZ (hw _ (List.mem_of_getElem? (i := 66) rfl))) (mvT hZ (hw _ (List.mem_of_getElem? (i := 67) rfl))) (notFace_of_selects (args := #[]) (mvT hZ (hw _ (List.mem_of_getElem? (i := 69) rfl)))) (mvT hZ (hw _ (List.mem_of_getElem? (i := 69) rfl))) (mvT hZ (hw _ (List.mem_of_getElem? (i := 68) rfl))) (by decide) (backOf (W := 1) (rmVn l Z a0 hw [] r  h0 n0 Z0 F_r) hZ (hw _ (List.mem_of_getElem? (i := 70) rfl)) (hw _ (List.mem_of_getElem? (i := 3) rfl)) (by decide) (by decide)) q2a q2c (g := (mkF m 250 #[.val (.int p1), .val (.ref b), .val (.int (7 : Int32)), .val (.ref r), .val (.int (1 : Int32)), .val (.int (0 : Int32))] [(.ref r), (.int (0 : Int32))])) rfl (by rw [hml]; rfl) (Steps.refl _) (argsL := []) (rest := [(.int (0 : Int32))]) (lenOf pd_1 rfl) rfl (by show 2 * 0 + _ ≤ _; exact Nat.le_of_eq rfl) (hb hby at_250) (fun _ _ => ⟨rfl, e1, (by decide : 1 + 0 ≤ _), (by decide : 27 + 0 ≤ _)⟩)
  dsimp only [Pt.U, Pt.locs, Pt.cells, Pt.slots] at X2 l2 y2 z2 st2 hQ2
  subst l2 y2 z2
  obtain ⟨rfl, N2q, e2⟩ := hQ2
  have N2 := Fr.app N1 N2q
  refine ⟨T2, _, X2, N2, e2, fun target kt => ?_⟩
  show Steps p.tables e below (T0.setTop (mkF m 197 #[.val (.int p1), .val (.ref b), .val (.int (7 : Int32)), .unset, .unset, .unset] [])) _
  refine XS.aloadN X0.here hx rfl (hb hby at_197) rfl rfl ?_
  show Steps p.tables e below (T0.setTop (mkF m 198 #[.val (.int p1), .val (.ref b), .val (.int (7 : Int32)), .unset, .unset, .unset] [(.ref b)])) _
  refine XS.iloadN X0.here hx rfl (hb hby at_198) rfl ?_
  show Steps p.tables e below (T0.setTop (mkF m 199 #[.val (.int p1), .val (.ref b), .val (.int (7 : Int32)), .unset, .unset, .unset] [(.int (7 : Int32)), (.ref b)])) _
  refine X0.aaload hx (j := (7 : Int32)) (v := (.ref r)) (by rw [e0]; exact Ar.1) (State.isArrayOf_alike hZ.alike Ar.2.1) rfl Ar.2.2 hin hat (g := (mkF m 199 #[.val (.int p1), .val (.ref b), .val (.int (7 : Int32)), .unset, .unset, .unset] [(.int (7 : Int32)), (.ref b)])) rfl rfl (hb hby at_199) _ ?_
  show Steps p.tables e below (T0.setTop (mkF m 200 #[.val (.int p1), .val (.ref b), .val (.int (7 : Int32)), .unset, .unset, .unset] [(.ref r)])) _
  refine XS.astoreN X0.here hx rfl (hb hby at_200) rfl rfl (l' := #[.val (.int p1), .val (.ref b), .val (.int (7 : Int32)), .val (.ref r), .unset, .unset]) rfl ?_
  show Steps p.tables e below (T0.setTop (mkF m 201 #[.val (.int p1), .val (.ref b), .val (.int (7 : Int32)), .val (.ref r), .unset, .unset] [])) _
  refine XS.iloadN X0.here hx rfl (hb hby at_201) rfl ?_
  show Steps p.tables e below (T0.setTop (mkF m 202 #[.val (.int p1), .val (.ref b), .val (.int (7 : Int32)), .val (.ref r), .unset, .unset] [(.int (7 : Int32))])) _
  refine XS.bipush X0.here hx rfl (hb hby at_202) ?_
  show Steps p.tables e below (T0.setTop (mkF m 204 #[.val (.int p1), .val (.ref b), .val (.int (7 : Int32)), .val (.ref r), .unset, .unset] [(.int (7 : Int32)), (.int (7 : Int32))])) _
  refine XS.icmpYes X0.here hx rfl (pc0 := 204) (pc' := 219) rfl (hb hby at_204) rfl (teq (rfl : (7 : Int32) = (7 : Int32))).1 (by decide) (by decide) ?_
  show Steps p.tables e below (T0.setTop (mkF m 219 #[.val (.int p1), .val (.ref b), .val (.int (7 : Int32)), .val (.ref r), .unset, .unset] [])) _
  refine XS.iconst X0.here hx rfl (hb hby at_219) ?_
  show Steps p.tables e below (T0.setTop (mkF m 220 #[.val (.int p1), .val (.ref b), .val (.int (7 : Int32)), .val (.ref r), .unset, .unset] [(.int (1 : Int32))])) _
  refine XS.goto X0.here hx rfl (pc0 := 220) (pc' := 224) rfl (hb hby at_220) (by decide) (by decide) ?_
  show Steps p.tables e below (T0.setTop (mkF m 224 #[.val (.int p1), .val (.ref b), .val (.int (7 : Int32)), .val (.ref r), .unset, .unset] [(.int (1 : Int32))])) _
  refine XS.istore X0.here hx rfl (hb hby at_224) rfl (l' := #[.val (.int p1), .val (.ref b), .val (.int (7 : Int32)), .val (.ref r), .val (.int (1 : Int32)), .unset]) rfl ?_
  show Steps p.tables e below (T0.setTop (mkF m 226 #[.val (.int p1), .val (.ref b), .val (.int (7 : Int32)), .val (.ref r), .val (.int (1 : Int32)), .unset] [])) _
  refine XS.aloadN X0.here hx rfl (hb hby at_226) rfl rfl ?_
  show Steps p.tables e below (T0.setTop (mkF m 227 #[.val (.int p1), .val (.ref b), .val (.int (7 : Int32)), .val (.ref r), .val (.int (1 : Int32)), .unset] [(.ref r)])) _
  refine st1.trans ?_
  show Steps p.tables e below (T1.setTop (mkF m 230 #[.val (.int p1), .val (.ref b), .val (.int (7 : Int32)), .val (.ref r), .val (.int (1 : Int32)), .unset] [(.int (0 : Int32))])) _
  refine XS.istore X1.here hx rfl (hb hby at_230) rfl (l' := #[.val (.int p1), .val (.ref b), .val (.int (7 : Int32)), .val (.ref r), .val (.int (1 : Int32)), .val (.int (0 : Int32))]) rfl ?_
  show Steps p.tables e below (T1.setTop (mkF m 232 #[.val (.int p1), .val (.ref b), .val (.int (7 : Int32)), .val (.ref r), .val (.int (1 : Int32)), .val (.int (0 : Int32))] [])) _
  refine XS.iload X1.here hx rfl (hb hby at_232) rfl ?_
  show Steps p.tables e below (T1.setTop (mkF m 234 #[.val (.int p1), .val (.ref b), .val (.int (7 : Int32)), .val (.ref r), .val (.int (1 : Int32)), .val (.int (0 : Int32))] [(.int (0 : Int32))])) _
  refine XS.iload X1.here hx rfl (hb hby at_234) rfl ?_
  show Steps p.tables e below (T1.setTop (mkF m 236 #[.val (.int p1), .val (.ref b), .val (.int (7 : Int32)), .val (.ref r), .val (.int (1 : Int32)), .val (.int (0 : Int32))] [(.int (1 : Int32)), (.int (0 : Int32))])) _
  refine XS.ifYes X1.here hx rfl (pc0 := 236) (pc' := 243) rfl (hb hby at_236) rfl ((if0 _ _).trans (feq (by decide : ¬ ((1 : Int32) = (0 : Int32)))).2) (by decide) (by decide) ?_
  show Steps p.tables e below (T1.setTop (mkF m 243 #[.val (.int p1), .val (.ref b), .val (.int (7 : Int32)), .val (.ref r), .val (.int (1 : Int32)), .val (.int (0 : Int32))] [(.int (0 : Int32))])) _
  refine XS.iconst X1.here hx rfl (hb hby at_243) ?_
  show Steps p.tables e below (T1.setTop (mkF m 244 #[.val (.int p1), .val (.ref b), .val (.int (7 : Int32)), .val (.ref r), .val (.int (1 : Int32)), .val (.int (0 : Int32))] [(.int (0 : Int32)), (.int (0 : Int32))])) _
  refine XS.icmpNo X1.here hx rfl (hb hby at_244) rfl (teq (rfl : (0 : Int32) = (0 : Int32))).2 ?_
  show Steps p.tables e below (T1.setTop (mkF m 247 #[.val (.int p1), .val (.ref b), .val (.int (7 : Int32)), .val (.ref r), .val (.int (1 : Int32)), .val (.int (0 : Int32))] [])) _
  refine XS.iload X1.here hx rfl (hb hby at_247) rfl ?_
  show Steps p.tables e below (T1.setTop (mkF m 249 #[.val (.int p1), .val (.ref b), .val (.int (7 : Int32)), .val (.ref r), .val (.int (1 : Int32)), .val (.int (0 : Int32))] [(.int (0 : Int32))])) _
  refine XS.aloadN X1.here hx rfl (hb hby at_249) rfl rfl ?_
  show Steps p.tables e below (T1.setTop (mkF m 250 #[.val (.int p1), .val (.ref b), .val (.int (7 : Int32)), .val (.ref r), .val (.int (1 : Int32)), .val (.int (0 : Int32))] [(.ref r), (.int (0 : Int32))])) _
  refine st2.trans ?_
  show Steps p.tables e below (T2.setTop (mkF m 253 #[.val (.int p1), .val (.ref b), .val (.int (7 : Int32)), .val (.ref r), .val (.int (1 : Int32)), .val (.int (0 : Int32))] [.null, (.int (0 : Int32))])) _
  refine XS.ifnullYes X2.here hx rfl (pc0 := 253) (pc' := 260) rfl (hb hby at_253) rfl (by decide) (by decide) ?_
  show Steps p.tables e below (T2.setTop (mkF m 260 #[.val (.int p1), .val (.ref b), .val (.int (7 : Int32)), .val (.ref r), .val (.int (1 : Int32)), .val (.int (0 : Int32))] [(.int (0 : Int32))])) _
  refine XS.iconst X2.here hx rfl (hb hby at_260) ?_
  show Steps p.tables e below (T2.setTop (mkF m 261 #[.val (.int p1), .val (.ref b), .val (.int (7 : Int32)), .val (.ref r), .val (.int (1 : Int32)), .val (.int (0 : Int32))] [(.int (0 : Int32)), (.int (0 : Int32))])) _
  refine XS.icmpNo X2.here hx rfl (hb hby at_261) rfl (teq (rfl : (0 : Int32) = (0 : Int32))).2 ?_
  show Steps p.tables e below (T2.setTop (mkF m 264 #[.val (.int p1), .val (.ref b), .val (.int (7 : Int32)), .val (.ref r), .val (.int (1 : Int32)), .val (.int (0 : Int32))] [])) _
  refine XS.iconst X2.here hx rfl (hb hby at_264) ?_
  show Steps p.tables e below (T2.setTop (mkF m 265 #[.val (.int p1), .val (.ref b), .val (.int (7 : Int32)), .val (.ref r), .val (.int (1 : Int32)), .val (.int (0 : Int32))] [(.int (1 : Int32))])) _
  refine XS.goto X2.here hx rfl (pc0 := 265) (pc' := 269) rfl (hb hby at_265) (by decide) (by decide) ?_
  exact kt
set_option maxRecDepth 65536 in
set_option maxHeartbeats 40000000 in
theorem own_t8 {p : Program} {l : Launch} {e : Env} {s : State} {m : MethodId} {args : Array Value} {below : List Frame} {meth : Method} {c : Code} {T0 : State} {locs : List Loc} {Z : State} {a0 : Array Value} {h0 : Heap} {n0 : Nat} (p1 : Int32) (b r : Addr) (cl : Cell)
    (X0 : Stand p l e room_1 s m args below meth c T0 locs 1 27) (hx : p.tables.exec = Jvm.exec) (hZ : Z.Warmed39 s.vm) (hw : ∀ d ∈ tables_1, d.before a0 Z = true) (hby : c.code = code) (hml : c.maxLocals = 6) (hown : s.vm.findClass "com/example/entente/entente/OptionTakesValuePinLaw" = some m.cls) (e0 : T0.heap = h0) (Z0 : n0 ≤ h0.size) (N0 : Fr n0 locs) (E_r : Exa Z h0 r "com/example/entente/entente/Option") (F_r : Fld Z h0 r "com/example/entente/entente/Option" "value" "Ljava/lang/String;" .null) (Ar : Arr Z h0 b cl (.object "com/example/entente/entente/Option")) (hin : ¬ ((8 : Int32) < 0 ∨ cl.slots.size ≤ ((8 : Int32)).toNatClampNeg)) (hat : cl.slots[((8 : Int32)).toNatClampNeg]? = some (.ref r)) :
    ∃ (T' : State) (L' : List Loc), Stand p l e room_1 s m args below meth c T' L' 1 27 ∧ Fr n0 L' ∧ T'.heap = h0 ∧ ∀ target, Steps p.tables e below (T'.setTop (mkF m 269 #[.val (.int p1), .val (.ref b), .val (.int (8 : Int32)), .val (.ref r), .val (.int (1 : Int32)), .val (.int (0 : Int32))] [(.int (1 : Int32))])) target → Steps p.tables e below (T0.setTop (mkF m 197 #[.val (.int p1), .val (.ref b), .val (.int (8 : Int32)), .unset, .unset, .unset] [])) target := by
  obtain ⟨cq1, kq1, q1a, q1b, q1c⟩ := isOf hZ e0 E_r
  obtain ⟨_, _, ⟨T1, L1, k1, n1⟩, -, X1, ⟨Lc1, hQ1, l1, y1, z1⟩, st1⟩ := X0.virtualBack hx (y := (⟨"com/example/entente/entente/Option", "takesValue", "()Z"⟩ : MethodName)) (z := (⟨"com/example/entente/entente/Option", "takesValue", "()Z"⟩ : MethodName)) hown (mvT hZ (hw _ (List.mem_of_getElem? (i := 59) rfl))) (mvT hZ (hw _ (List.mem_of_getElem? (i := 60) rfl))) (notFace_of_selects (args := #[]) (mvT hZ (hw _ (List.mem_of_getElem? (i := 62) rfl)))) (mvT hZ (hw _ (List.mem_of_getElem? (i := 62) rfl))) (mvT hZ (hw _ (List.mem_of_getElem? (i := 61) rfl))) (by decide) (backOf (W := 0) (rmTn l Z a0 hw [] r  h0 n0 Z0 F_r) hZ (hw _ (List.mem_of_getElem? (i := 63) rfl)) (hw _ (List.mem_of_getElem? (i := 3) rfl)) (by decide) (by decide)) q1a q1c (g := (mkF m 227 #[.val (.int p1), .val (.ref b), .val (.int (8 : Int32)), .val (.ref r), .val (.int (1 : Int32)), .unset] [(.ref r)])) rfl (by rw [hml]; rfl) (Steps.refl _) (argsL := []) (rest := []) (lenOf pd_0 rfl) rfl (by show 2 * 0 + _ ≤ _; exact Nat.le_of_eq rfl) (hb hby at_227) (fun _ _ => ⟨rfl, e0, (by decide : 1 + 0 ≤ _), (by decide : 27 + 0 ≤ _)⟩)
  dsimp only [Pt.U, Pt.locs, Pt.cells, Pt.slots] at X1 l1 y1 z1 st1 hQ1
  subst l1 y1 z1
  obtain ⟨rfl, N1q, e1⟩ := hQ1
  have N1 := Fr.app N0 N1q
  obtain ⟨cq2, kq2, q2a, q2b, q2c⟩ := isOf hZ e1 E_r
  obtain ⟨_, _, ⟨T2, L2, k2, n2⟩, -, X2, ⟨Lc2, hQ2, l2, y2, z2⟩, st2⟩ := X1.virtualBack hx (y := (⟨"com/example/entente/entente/Option", "value", "()Ljava/lang/String;"⟩ : MethodName)) (z := (⟨"com/example/entente/entente/Option", "value", "()Ljava/lang/String;"⟩ : MethodName)) hown (mvT hZ (hw _ (List.mem_of_getElem? (i := 66) rfl))) (mvT hZ (hw _ (List.mem_of_getElem? (i := 67) rfl))) (notFace_of_selects (args := #[]) (mvT hZ (hw _ (List.mem_of_getElem? (i := 69) rfl)))) (mvT hZ (hw _ (List.mem_of_getElem? (i := 69) rfl))) (mvT hZ (hw _ (List.mem_of_getElem? (i := 68) rfl))) (by decide) (backOf (W := 1) (rmVn l Z a0 hw [] r  h0 n0 Z0 F_r) hZ (hw _ (List.mem_of_getElem? (i := 70) rfl)) (hw _ (List.mem_of_getElem? (i := 3) rfl)) (by decide) (by decide)) q2a q2c (g := (mkF m 250 #[.val (.int p1), .val (.ref b), .val (.int (8 : Int32)), .val (.ref r), .val (.int (1 : Int32)), .val (.int (0 : Int32))] [(.ref r), (.int (0 : Int32))])) rfl (by rw [hml]; rfl) (Steps.refl _) (argsL := []) (rest := [(.int (0 : Int32))]) (lenOf pd_1 rfl) rfl (by show 2 * 0 + _ ≤ _; exact Nat.le_of_eq rfl) (hb hby at_250) (fun _ _ => ⟨rfl, e1, (by decide : 1 + 0 ≤ _), (by decide : 27 + 0 ≤ _)⟩)
  dsimp only [Pt.U, Pt.locs, Pt.cells, Pt.slots] at X2 l2 y2 z2 st2 hQ2
  subst l2 y2 z2
  obtain ⟨rfl, N2q, e2⟩ := hQ2
  have N2 := Fr.app N1 N2q
  refine ⟨T2, _, X2, N2, e2, fun target kt => ?_⟩
  show Steps p.tables e below (T0.setTop (mkF m 197 #[.val (.int p1), .val (.ref b), .val (.int (8 : Int32)), .unset, .unset, .unset] [])) _
  refine XS.aloadN X0.here hx rfl (hb hby at_197) rfl rfl ?_
  show Steps p.tables e below (T0.setTop (mkF m 198 #[.val (.int p1), .val (.ref b), .val (.int (8 : Int32)), .unset, .unset, .unset] [(.ref b)])) _
  refine XS.iloadN X0.here hx rfl (hb hby at_198) rfl ?_
  show Steps p.tables e below (T0.setTop (mkF m 199 #[.val (.int p1), .val (.ref b), .val (.int (8 : Int32)), .unset, .unset, .unset] [(.int (8 : Int32)), (.ref b)])) _
  refine X0.aaload hx (j := (8 : Int32)) (v := (.ref r)) (by rw [e0]; exact Ar.1) (State.isArrayOf_alike hZ.alike Ar.2.1) rfl Ar.2.2 hin hat (g := (mkF m 199 #[.val (.int p1), .val (.ref b), .val (.int (8 : Int32)), .unset, .unset, .unset] [(.int (8 : Int32)), (.ref b)])) rfl rfl (hb hby at_199) _ ?_
  show Steps p.tables e below (T0.setTop (mkF m 200 #[.val (.int p1), .val (.ref b), .val (.int (8 : Int32)), .unset, .unset, .unset] [(.ref r)])) _
  refine XS.astoreN X0.here hx rfl (hb hby at_200) rfl rfl (l' := #[.val (.int p1), .val (.ref b), .val (.int (8 : Int32)), .val (.ref r), .unset, .unset]) rfl ?_
  show Steps p.tables e below (T0.setTop (mkF m 201 #[.val (.int p1), .val (.ref b), .val (.int (8 : Int32)), .val (.ref r), .unset, .unset] [])) _
  refine XS.iloadN X0.here hx rfl (hb hby at_201) rfl ?_
  show Steps p.tables e below (T0.setTop (mkF m 202 #[.val (.int p1), .val (.ref b), .val (.int (8 : Int32)), .val (.ref r), .unset, .unset] [(.int (8 : Int32))])) _
  refine XS.bipush X0.here hx rfl (hb hby at_202) ?_
  show Steps p.tables e below (T0.setTop (mkF m 204 #[.val (.int p1), .val (.ref b), .val (.int (8 : Int32)), .val (.ref r), .unset, .unset] [(.int (7 : Int32)), (.int (8 : Int32))])) _
  refine XS.icmpNo X0.here hx rfl (hb hby at_204) rfl (feq (by decide : ¬ ((8 : Int32) = (7 : Int32)))).1 ?_
  show Steps p.tables e below (T0.setTop (mkF m 207 #[.val (.int p1), .val (.ref b), .val (.int (8 : Int32)), .val (.ref r), .unset, .unset] [])) _
  refine XS.iloadN X0.here hx rfl (hb hby at_207) rfl ?_
  show Steps p.tables e below (T0.setTop (mkF m 208 #[.val (.int p1), .val (.ref b), .val (.int (8 : Int32)), .val (.ref r), .unset, .unset] [(.int (8 : Int32))])) _
  refine XS.bipush X0.here hx rfl (hb hby at_208) ?_
  show Steps p.tables e below (T0.setTop (mkF m 210 #[.val (.int p1), .val (.ref b), .val (.int (8 : Int32)), .val (.ref r), .unset, .unset] [(.int (8 : Int32)), (.int (8 : Int32))])) _
  refine XS.icmpYes X0.here hx rfl (pc0 := 210) (pc' := 219) rfl (hb hby at_210) rfl (teq (rfl : (8 : Int32) = (8 : Int32))).1 (by decide) (by decide) ?_
  show Steps p.tables e below (T0.setTop (mkF m 219 #[.val (.int p1), .val (.ref b), .val (.int (8 : Int32)), .val (.ref r), .unset, .unset] [])) _
  refine XS.iconst X0.here hx rfl (hb hby at_219) ?_
  show Steps p.tables e below (T0.setTop (mkF m 220 #[.val (.int p1), .val (.ref b), .val (.int (8 : Int32)), .val (.ref r), .unset, .unset] [(.int (1 : Int32))])) _
  refine XS.goto X0.here hx rfl (pc0 := 220) (pc' := 224) rfl (hb hby at_220) (by decide) (by decide) ?_
  show Steps p.tables e below (T0.setTop (mkF m 224 #[.val (.int p1), .val (.ref b), .val (.int (8 : Int32)), .val (.ref r), .unset, .unset] [(.int (1 : Int32))])) _
  refine XS.istore X0.here hx rfl (hb hby at_224) rfl (l' := #[.val (.int p1), .val (.ref b), .val (.int (8 : Int32)), .val (.ref r), .val (.int (1 : Int32)), .unset]) rfl ?_
  show Steps p.tables e below (T0.setTop (mkF m 226 #[.val (.int p1), .val (.ref b), .val (.int (8 : Int32)), .val (.ref r), .val (.int (1 : Int32)), .unset] [])) _
  refine XS.aloadN X0.here hx rfl (hb hby at_226) rfl rfl ?_
  show Steps p.tables e below (T0.setTop (mkF m 227 #[.val (.int p1), .val (.ref b), .val (.int (8 : Int32)), .val (.ref r), .val (.int (1 : Int32)), .unset] [(.ref r)])) _
  refine st1.trans ?_
  show Steps p.tables e below (T1.setTop (mkF m 230 #[.val (.int p1), .val (.ref b), .val (.int (8 : Int32)), .val (.ref r), .val (.int (1 : Int32)), .unset] [(.int (0 : Int32))])) _
  refine XS.istore X1.here hx rfl (hb hby at_230) rfl (l' := #[.val (.int p1), .val (.ref b), .val (.int (8 : Int32)), .val (.ref r), .val (.int (1 : Int32)), .val (.int (0 : Int32))]) rfl ?_
  show Steps p.tables e below (T1.setTop (mkF m 232 #[.val (.int p1), .val (.ref b), .val (.int (8 : Int32)), .val (.ref r), .val (.int (1 : Int32)), .val (.int (0 : Int32))] [])) _
  refine XS.iload X1.here hx rfl (hb hby at_232) rfl ?_
  show Steps p.tables e below (T1.setTop (mkF m 234 #[.val (.int p1), .val (.ref b), .val (.int (8 : Int32)), .val (.ref r), .val (.int (1 : Int32)), .val (.int (0 : Int32))] [(.int (0 : Int32))])) _
  refine XS.iload X1.here hx rfl (hb hby at_234) rfl ?_
  show Steps p.tables e below (T1.setTop (mkF m 236 #[.val (.int p1), .val (.ref b), .val (.int (8 : Int32)), .val (.ref r), .val (.int (1 : Int32)), .val (.int (0 : Int32))] [(.int (1 : Int32)), (.int (0 : Int32))])) _
  refine XS.ifYes X1.here hx rfl (pc0 := 236) (pc' := 243) rfl (hb hby at_236) rfl ((if0 _ _).trans (feq (by decide : ¬ ((1 : Int32) = (0 : Int32)))).2) (by decide) (by decide) ?_
  show Steps p.tables e below (T1.setTop (mkF m 243 #[.val (.int p1), .val (.ref b), .val (.int (8 : Int32)), .val (.ref r), .val (.int (1 : Int32)), .val (.int (0 : Int32))] [(.int (0 : Int32))])) _
  refine XS.iconst X1.here hx rfl (hb hby at_243) ?_
  show Steps p.tables e below (T1.setTop (mkF m 244 #[.val (.int p1), .val (.ref b), .val (.int (8 : Int32)), .val (.ref r), .val (.int (1 : Int32)), .val (.int (0 : Int32))] [(.int (0 : Int32)), (.int (0 : Int32))])) _
  refine XS.icmpNo X1.here hx rfl (hb hby at_244) rfl (teq (rfl : (0 : Int32) = (0 : Int32))).2 ?_
  show Steps p.tables e below (T1.setTop (mkF m 247 #[.val (.int p1), .val (.ref b), .val (.int (8 : Int32)), .val (.ref r), .val (.int (1 : Int32)), .val (.int (0 : Int32))] [])) _
  refine XS.iload X1.here hx rfl (hb hby at_247) rfl ?_
  show Steps p.tables e below (T1.setTop (mkF m 249 #[.val (.int p1), .val (.ref b), .val (.int (8 : Int32)), .val (.ref r), .val (.int (1 : Int32)), .val (.int (0 : Int32))] [(.int (0 : Int32))])) _
  refine XS.aloadN X1.here hx rfl (hb hby at_249) rfl rfl ?_
  show Steps p.tables e below (T1.setTop (mkF m 250 #[.val (.int p1), .val (.ref b), .val (.int (8 : Int32)), .val (.ref r), .val (.int (1 : Int32)), .val (.int (0 : Int32))] [(.ref r), (.int (0 : Int32))])) _
  refine st2.trans ?_
  show Steps p.tables e below (T2.setTop (mkF m 253 #[.val (.int p1), .val (.ref b), .val (.int (8 : Int32)), .val (.ref r), .val (.int (1 : Int32)), .val (.int (0 : Int32))] [.null, (.int (0 : Int32))])) _
  refine XS.ifnullYes X2.here hx rfl (pc0 := 253) (pc' := 260) rfl (hb hby at_253) rfl (by decide) (by decide) ?_
  show Steps p.tables e below (T2.setTop (mkF m 260 #[.val (.int p1), .val (.ref b), .val (.int (8 : Int32)), .val (.ref r), .val (.int (1 : Int32)), .val (.int (0 : Int32))] [(.int (0 : Int32))])) _
  refine XS.iconst X2.here hx rfl (hb hby at_260) ?_
  show Steps p.tables e below (T2.setTop (mkF m 261 #[.val (.int p1), .val (.ref b), .val (.int (8 : Int32)), .val (.ref r), .val (.int (1 : Int32)), .val (.int (0 : Int32))] [(.int (0 : Int32)), (.int (0 : Int32))])) _
  refine XS.icmpNo X2.here hx rfl (hb hby at_261) rfl (teq (rfl : (0 : Int32) = (0 : Int32))).2 ?_
  show Steps p.tables e below (T2.setTop (mkF m 264 #[.val (.int p1), .val (.ref b), .val (.int (8 : Int32)), .val (.ref r), .val (.int (1 : Int32)), .val (.int (0 : Int32))] [])) _
  refine XS.iconst X2.here hx rfl (hb hby at_264) ?_
  show Steps p.tables e below (T2.setTop (mkF m 265 #[.val (.int p1), .val (.ref b), .val (.int (8 : Int32)), .val (.ref r), .val (.int (1 : Int32)), .val (.int (0 : Int32))] [(.int (1 : Int32))])) _
  refine XS.goto X2.here hx rfl (pc0 := 265) (pc' := 269) rfl (hb hby at_265) (by decide) (by decide) ?_
  exact kt
set_option maxRecDepth 65536 in
set_option maxHeartbeats 40000000 in
theorem own_t26 {p : Program} {l : Launch} {e : Env} {s : State} {m : MethodId} {args : Array Value} {below : List Frame} {meth : Method} {c : Code} {T0 : State} {locs : List Loc} {Z : State} {a0 : Array Value} {h0 : Heap} {n0 : Nat} (p1 : Int32) (b r : Addr) (cl : Cell)
    (X0 : Stand p l e room_1 s m args below meth c T0 locs 1 27) (hx : p.tables.exec = Jvm.exec) (hZ : Z.Warmed39 s.vm) (hw : ∀ d ∈ tables_1, d.before a0 Z = true) (hby : c.code = code) (hml : c.maxLocals = 6) (hown : s.vm.findClass "com/example/entente/entente/OptionTakesValuePinLaw" = some m.cls) (e0 : T0.heap = h0) (Z0 : n0 ≤ h0.size) (N0 : Fr n0 locs) (E_r : Exa Z h0 r "com/example/entente/entente/Option") (F_r : Fld Z h0 r "com/example/entente/entente/Option" "value" "Ljava/lang/String;" .null) (Ar : Arr Z h0 b cl (.object "com/example/entente/entente/Option")) (hin : ¬ ((26 : Int32) < 0 ∨ cl.slots.size ≤ ((26 : Int32)).toNatClampNeg)) (hat : cl.slots[((26 : Int32)).toNatClampNeg]? = some (.ref r)) :
    ∃ (T' : State) (L' : List Loc), Stand p l e room_1 s m args below meth c T' L' 1 27 ∧ Fr n0 L' ∧ T'.heap = h0 ∧ ∀ target, Steps p.tables e below (T'.setTop (mkF m 269 #[.val (.int p1), .val (.ref b), .val (.int (26 : Int32)), .val (.ref r), .val (.int (1 : Int32)), .val (.int (0 : Int32))] [(.int (1 : Int32))])) target → Steps p.tables e below (T0.setTop (mkF m 197 #[.val (.int p1), .val (.ref b), .val (.int (26 : Int32)), .unset, .unset, .unset] [])) target := by
  obtain ⟨cq1, kq1, q1a, q1b, q1c⟩ := isOf hZ e0 E_r
  obtain ⟨_, _, ⟨T1, L1, k1, n1⟩, -, X1, ⟨Lc1, hQ1, l1, y1, z1⟩, st1⟩ := X0.virtualBack hx (y := (⟨"com/example/entente/entente/Option", "takesValue", "()Z"⟩ : MethodName)) (z := (⟨"com/example/entente/entente/Option", "takesValue", "()Z"⟩ : MethodName)) hown (mvT hZ (hw _ (List.mem_of_getElem? (i := 59) rfl))) (mvT hZ (hw _ (List.mem_of_getElem? (i := 60) rfl))) (notFace_of_selects (args := #[]) (mvT hZ (hw _ (List.mem_of_getElem? (i := 62) rfl)))) (mvT hZ (hw _ (List.mem_of_getElem? (i := 62) rfl))) (mvT hZ (hw _ (List.mem_of_getElem? (i := 61) rfl))) (by decide) (backOf (W := 0) (rmTn l Z a0 hw [] r  h0 n0 Z0 F_r) hZ (hw _ (List.mem_of_getElem? (i := 63) rfl)) (hw _ (List.mem_of_getElem? (i := 3) rfl)) (by decide) (by decide)) q1a q1c (g := (mkF m 227 #[.val (.int p1), .val (.ref b), .val (.int (26 : Int32)), .val (.ref r), .val (.int (1 : Int32)), .unset] [(.ref r)])) rfl (by rw [hml]; rfl) (Steps.refl _) (argsL := []) (rest := []) (lenOf pd_0 rfl) rfl (by show 2 * 0 + _ ≤ _; exact Nat.le_of_eq rfl) (hb hby at_227) (fun _ _ => ⟨rfl, e0, (by decide : 1 + 0 ≤ _), (by decide : 27 + 0 ≤ _)⟩)
  dsimp only [Pt.U, Pt.locs, Pt.cells, Pt.slots] at X1 l1 y1 z1 st1 hQ1
  subst l1 y1 z1
  obtain ⟨rfl, N1q, e1⟩ := hQ1
  have N1 := Fr.app N0 N1q
  obtain ⟨cq2, kq2, q2a, q2b, q2c⟩ := isOf hZ e1 E_r
  obtain ⟨_, _, ⟨T2, L2, k2, n2⟩, -, X2, ⟨Lc2, hQ2, l2, y2, z2⟩, st2⟩ := X1.virtualBack hx (y := (⟨"com/example/entente/entente/Option", "value", "()Ljava/lang/String;"⟩ : MethodName)) (z := (⟨"com/example/entente/entente/Option", "value", "()Ljava/lang/String;"⟩ : MethodName)) hown (mvT hZ (hw _ (List.mem_of_getElem? (i := 66) rfl))) (mvT hZ (hw _ (List.mem_of_getElem? (i := 67) rfl))) (notFace_of_selects (args := #[]) (mvT hZ (hw _ (List.mem_of_getElem? (i := 69) rfl)))) (mvT hZ (hw _ (List.mem_of_getElem? (i := 69) rfl))) (mvT hZ (hw _ (List.mem_of_getElem? (i := 68) rfl))) (by decide) (backOf (W := 1) (rmVn l Z a0 hw [] r  h0 n0 Z0 F_r) hZ (hw _ (List.mem_of_getElem? (i := 70) rfl)) (hw _ (List.mem_of_getElem? (i := 3) rfl)) (by decide) (by decide)) q2a q2c (g := (mkF m 250 #[.val (.int p1), .val (.ref b), .val (.int (26 : Int32)), .val (.ref r), .val (.int (1 : Int32)), .val (.int (0 : Int32))] [(.ref r), (.int (0 : Int32))])) rfl (by rw [hml]; rfl) (Steps.refl _) (argsL := []) (rest := [(.int (0 : Int32))]) (lenOf pd_1 rfl) rfl (by show 2 * 0 + _ ≤ _; exact Nat.le_of_eq rfl) (hb hby at_250) (fun _ _ => ⟨rfl, e1, (by decide : 1 + 0 ≤ _), (by decide : 27 + 0 ≤ _)⟩)
  dsimp only [Pt.U, Pt.locs, Pt.cells, Pt.slots] at X2 l2 y2 z2 st2 hQ2
  subst l2 y2 z2
  obtain ⟨rfl, N2q, e2⟩ := hQ2
  have N2 := Fr.app N1 N2q
  refine ⟨T2, _, X2, N2, e2, fun target kt => ?_⟩
  show Steps p.tables e below (T0.setTop (mkF m 197 #[.val (.int p1), .val (.ref b), .val (.int (26 : Int32)), .unset, .unset, .unset] [])) _
  refine XS.aloadN X0.here hx rfl (hb hby at_197) rfl rfl ?_
  show Steps p.tables e below (T0.setTop (mkF m 198 #[.val (.int p1), .val (.ref b), .val (.int (26 : Int32)), .unset, .unset, .unset] [(.ref b)])) _
  refine XS.iloadN X0.here hx rfl (hb hby at_198) rfl ?_
  show Steps p.tables e below (T0.setTop (mkF m 199 #[.val (.int p1), .val (.ref b), .val (.int (26 : Int32)), .unset, .unset, .unset] [(.int (26 : Int32)), (.ref b)])) _
  refine X0.aaload hx (j := (26 : Int32)) (v := (.ref r)) (by rw [e0]; exact Ar.1) (State.isArrayOf_alike hZ.alike Ar.2.1) rfl Ar.2.2 hin hat (g := (mkF m 199 #[.val (.int p1), .val (.ref b), .val (.int (26 : Int32)), .unset, .unset, .unset] [(.int (26 : Int32)), (.ref b)])) rfl rfl (hb hby at_199) _ ?_
  show Steps p.tables e below (T0.setTop (mkF m 200 #[.val (.int p1), .val (.ref b), .val (.int (26 : Int32)), .unset, .unset, .unset] [(.ref r)])) _
  refine XS.astoreN X0.here hx rfl (hb hby at_200) rfl rfl (l' := #[.val (.int p1), .val (.ref b), .val (.int (26 : Int32)), .val (.ref r), .unset, .unset]) rfl ?_
  show Steps p.tables e below (T0.setTop (mkF m 201 #[.val (.int p1), .val (.ref b), .val (.int (26 : Int32)), .val (.ref r), .unset, .unset] [])) _
  refine XS.iloadN X0.here hx rfl (hb hby at_201) rfl ?_
  show Steps p.tables e below (T0.setTop (mkF m 202 #[.val (.int p1), .val (.ref b), .val (.int (26 : Int32)), .val (.ref r), .unset, .unset] [(.int (26 : Int32))])) _
  refine XS.bipush X0.here hx rfl (hb hby at_202) ?_
  show Steps p.tables e below (T0.setTop (mkF m 204 #[.val (.int p1), .val (.ref b), .val (.int (26 : Int32)), .val (.ref r), .unset, .unset] [(.int (7 : Int32)), (.int (26 : Int32))])) _
  refine XS.icmpNo X0.here hx rfl (hb hby at_204) rfl (feq (by decide : ¬ ((26 : Int32) = (7 : Int32)))).1 ?_
  show Steps p.tables e below (T0.setTop (mkF m 207 #[.val (.int p1), .val (.ref b), .val (.int (26 : Int32)), .val (.ref r), .unset, .unset] [])) _
  refine XS.iloadN X0.here hx rfl (hb hby at_207) rfl ?_
  show Steps p.tables e below (T0.setTop (mkF m 208 #[.val (.int p1), .val (.ref b), .val (.int (26 : Int32)), .val (.ref r), .unset, .unset] [(.int (26 : Int32))])) _
  refine XS.bipush X0.here hx rfl (hb hby at_208) ?_
  show Steps p.tables e below (T0.setTop (mkF m 210 #[.val (.int p1), .val (.ref b), .val (.int (26 : Int32)), .val (.ref r), .unset, .unset] [(.int (8 : Int32)), (.int (26 : Int32))])) _
  refine XS.icmpNo X0.here hx rfl (hb hby at_210) rfl (feq (by decide : ¬ ((26 : Int32) = (8 : Int32)))).1 ?_
  show Steps p.tables e below (T0.setTop (mkF m 213 #[.val (.int p1), .val (.ref b), .val (.int (26 : Int32)), .val (.ref r), .unset, .unset] [])) _
  refine XS.iloadN X0.here hx rfl (hb hby at_213) rfl ?_
  show Steps p.tables e below (T0.setTop (mkF m 214 #[.val (.int p1), .val (.ref b), .val (.int (26 : Int32)), .val (.ref r), .unset, .unset] [(.int (26 : Int32))])) _
  refine XS.bipush X0.here hx rfl (hb hby at_214) ?_
  show Steps p.tables e below (T0.setTop (mkF m 216 #[.val (.int p1), .val (.ref b), .val (.int (26 : Int32)), .val (.ref r), .unset, .unset] [(.int (26 : Int32)), (.int (26 : Int32))])) _
  refine XS.icmpNo X0.here hx rfl (hb hby at_216) rfl (teq (rfl : (26 : Int32) = (26 : Int32))).2 ?_
  show Steps p.tables e below (T0.setTop (mkF m 219 #[.val (.int p1), .val (.ref b), .val (.int (26 : Int32)), .val (.ref r), .unset, .unset] [])) _
  refine XS.iconst X0.here hx rfl (hb hby at_219) ?_
  show Steps p.tables e below (T0.setTop (mkF m 220 #[.val (.int p1), .val (.ref b), .val (.int (26 : Int32)), .val (.ref r), .unset, .unset] [(.int (1 : Int32))])) _
  refine XS.goto X0.here hx rfl (pc0 := 220) (pc' := 224) rfl (hb hby at_220) (by decide) (by decide) ?_
  show Steps p.tables e below (T0.setTop (mkF m 224 #[.val (.int p1), .val (.ref b), .val (.int (26 : Int32)), .val (.ref r), .unset, .unset] [(.int (1 : Int32))])) _
  refine XS.istore X0.here hx rfl (hb hby at_224) rfl (l' := #[.val (.int p1), .val (.ref b), .val (.int (26 : Int32)), .val (.ref r), .val (.int (1 : Int32)), .unset]) rfl ?_
  show Steps p.tables e below (T0.setTop (mkF m 226 #[.val (.int p1), .val (.ref b), .val (.int (26 : Int32)), .val (.ref r), .val (.int (1 : Int32)), .unset] [])) _
  refine XS.aloadN X0.here hx rfl (hb hby at_226) rfl rfl ?_
  show Steps p.tables e below (T0.setTop (mkF m 227 #[.val (.int p1), .val (.ref b), .val (.int (26 : Int32)), .val (.ref r), .val (.int (1 : Int32)), .unset] [(.ref r)])) _
  refine st1.trans ?_
  show Steps p.tables e below (T1.setTop (mkF m 230 #[.val (.int p1), .val (.ref b), .val (.int (26 : Int32)), .val (.ref r), .val (.int (1 : Int32)), .unset] [(.int (0 : Int32))])) _
  refine XS.istore X1.here hx rfl (hb hby at_230) rfl (l' := #[.val (.int p1), .val (.ref b), .val (.int (26 : Int32)), .val (.ref r), .val (.int (1 : Int32)), .val (.int (0 : Int32))]) rfl ?_
  show Steps p.tables e below (T1.setTop (mkF m 232 #[.val (.int p1), .val (.ref b), .val (.int (26 : Int32)), .val (.ref r), .val (.int (1 : Int32)), .val (.int (0 : Int32))] [])) _
  refine XS.iload X1.here hx rfl (hb hby at_232) rfl ?_
  show Steps p.tables e below (T1.setTop (mkF m 234 #[.val (.int p1), .val (.ref b), .val (.int (26 : Int32)), .val (.ref r), .val (.int (1 : Int32)), .val (.int (0 : Int32))] [(.int (0 : Int32))])) _
  refine XS.iload X1.here hx rfl (hb hby at_234) rfl ?_
  show Steps p.tables e below (T1.setTop (mkF m 236 #[.val (.int p1), .val (.ref b), .val (.int (26 : Int32)), .val (.ref r), .val (.int (1 : Int32)), .val (.int (0 : Int32))] [(.int (1 : Int32)), (.int (0 : Int32))])) _
  refine XS.ifYes X1.here hx rfl (pc0 := 236) (pc' := 243) rfl (hb hby at_236) rfl ((if0 _ _).trans (feq (by decide : ¬ ((1 : Int32) = (0 : Int32)))).2) (by decide) (by decide) ?_
  show Steps p.tables e below (T1.setTop (mkF m 243 #[.val (.int p1), .val (.ref b), .val (.int (26 : Int32)), .val (.ref r), .val (.int (1 : Int32)), .val (.int (0 : Int32))] [(.int (0 : Int32))])) _
  refine XS.iconst X1.here hx rfl (hb hby at_243) ?_
  show Steps p.tables e below (T1.setTop (mkF m 244 #[.val (.int p1), .val (.ref b), .val (.int (26 : Int32)), .val (.ref r), .val (.int (1 : Int32)), .val (.int (0 : Int32))] [(.int (0 : Int32)), (.int (0 : Int32))])) _
  refine XS.icmpNo X1.here hx rfl (hb hby at_244) rfl (teq (rfl : (0 : Int32) = (0 : Int32))).2 ?_
  show Steps p.tables e below (T1.setTop (mkF m 247 #[.val (.int p1), .val (.ref b), .val (.int (26 : Int32)), .val (.ref r), .val (.int (1 : Int32)), .val (.int (0 : Int32))] [])) _
  refine XS.iload X1.here hx rfl (hb hby at_247) rfl ?_
  show Steps p.tables e below (T1.setTop (mkF m 249 #[.val (.int p1), .val (.ref b), .val (.int (26 : Int32)), .val (.ref r), .val (.int (1 : Int32)), .val (.int (0 : Int32))] [(.int (0 : Int32))])) _
  refine XS.aloadN X1.here hx rfl (hb hby at_249) rfl rfl ?_
  show Steps p.tables e below (T1.setTop (mkF m 250 #[.val (.int p1), .val (.ref b), .val (.int (26 : Int32)), .val (.ref r), .val (.int (1 : Int32)), .val (.int (0 : Int32))] [(.ref r), (.int (0 : Int32))])) _
  refine st2.trans ?_
  show Steps p.tables e below (T2.setTop (mkF m 253 #[.val (.int p1), .val (.ref b), .val (.int (26 : Int32)), .val (.ref r), .val (.int (1 : Int32)), .val (.int (0 : Int32))] [.null, (.int (0 : Int32))])) _
  refine XS.ifnullYes X2.here hx rfl (pc0 := 253) (pc' := 260) rfl (hb hby at_253) rfl (by decide) (by decide) ?_
  show Steps p.tables e below (T2.setTop (mkF m 260 #[.val (.int p1), .val (.ref b), .val (.int (26 : Int32)), .val (.ref r), .val (.int (1 : Int32)), .val (.int (0 : Int32))] [(.int (0 : Int32))])) _
  refine XS.iconst X2.here hx rfl (hb hby at_260) ?_
  show Steps p.tables e below (T2.setTop (mkF m 261 #[.val (.int p1), .val (.ref b), .val (.int (26 : Int32)), .val (.ref r), .val (.int (1 : Int32)), .val (.int (0 : Int32))] [(.int (0 : Int32)), (.int (0 : Int32))])) _
  refine XS.icmpNo X2.here hx rfl (hb hby at_261) rfl (teq (rfl : (0 : Int32) = (0 : Int32))).2 ?_
  show Steps p.tables e below (T2.setTop (mkF m 264 #[.val (.int p1), .val (.ref b), .val (.int (26 : Int32)), .val (.ref r), .val (.int (1 : Int32)), .val (.int (0 : Int32))] [])) _
  refine XS.iconst X2.here hx rfl (hb hby at_264) ?_
  show Steps p.tables e below (T2.setTop (mkF m 265 #[.val (.int p1), .val (.ref b), .val (.int (26 : Int32)), .val (.ref r), .val (.int (1 : Int32)), .val (.int (0 : Int32))] [(.int (1 : Int32))])) _
  refine XS.goto X2.here hx rfl (pc0 := 265) (pc' := 269) rfl (hb hby at_265) (by decide) (by decide) ?_
  exact kt
theorem own_27 {n : Nat} (h : n < 27) : n = 0 ∨ n = 1 ∨ n = 2 ∨ n = 3 ∨ n = 4 ∨ n = 5 ∨ n = 6 ∨ n = 7 ∨ n = 8 ∨ n = 9 ∨ n = 10 ∨ n = 11 ∨ n = 12 ∨ n = 13 ∨ n = 14 ∨ n = 15 ∨ n = 16 ∨ n = 17 ∨ n = 18 ∨ n = 19 ∨ n = 20 ∨ n = 21 ∨ n = 22 ∨ n = 23 ∨ n = 24 ∨ n = 25 ∨ n = 26 := by omega
theorem pn_com_example_entente_entente_OptionTakesValuePinLaw : plainName "com/example/entente/entente/OptionTakesValuePinLaw" = true := by first | (simp [plainName, overriddenIn]; done) | decide +kernel
theorem ef_rm0 (m : MethodId) (x0 : Int32) : entryFrame m #[(.int x0)] maxLocals = mkF m 0 #[.val (.int x0), .unset, .unset, .unset, .unset, .unset] [] := by first | (simp [entryFrame, mkF, argsToLocals, Value.category, maxLocals]; done) | rfl
def Qrm0 (Z : State) (p1 : Int32) (r0 r1 r2 r3 r4 r5 r6 r7 r8 r9 r10 r11 r12 r13 r14 r15 r16 r17 r18 r19 r20 r21 r22 r23 r24 r25 r26 : Addr) (u0 u1 u2 u3 u4 u5 u6 u9 u10 u11 u12 u13 u14 u15 u16 u17 u18 u19 u20 u21 u22 u23 u24 u25 : Addr) (h0 : Heap) (n0 : Nat) (v : Option Value) (h : Heap) (L : List Loc) : Prop := v = some (.int (1 : Int32)) ∧ Fr n0 L
set_option maxRecDepth 65536 in
set_option maxHeartbeats 40000000 in
theorem rm0 (l : Launch) (Z : State) (a0 : Array Value) (hw : ∀ d ∈ tables_1, d.before a0 Z = true) (ws : List Jvm.Cond) (p1 : Int32) (r0 r1 r2 r3 r4 r5 r6 r7 r8 r9 r10 r11 r12 r13 r14 r15 r16 r17 r18 r19 r20 r21 r22 r23 r24 r25 r26 : Addr) (u0 u1 u2 u3 u4 u5 u6 u9 u10 u11 u12 u13 u14 u15 u16 u17 u18 u19 u20 u21 u22 u23 u24 u25 : Addr) (h0 : Heap) (n0 : Nat) (Z0 : n0 ≤ h0.size) (S0_ : Sta Z h0 "com/example/entente/entente/Option" "ALGORITHM" "Lcom/example/entente/entente/Option;" (.ref r0)) (E0_ : Exa Z h0 r0 "com/example/entente/entente/Option") (S1_ : Sta Z h0 "com/example/entente/entente/Option" "NOGOOD_LIMIT" "Lcom/example/entente/entente/Option;" (.ref r1)) (E1_ : Exa Z h0 r1 "com/example/entente/entente/Option") (S2_ : Sta Z h0 "com/example/entente/entente/Option" "PROCESSES" "Lcom/example/entente/entente/Option;" (.ref r2)) (E2_ : Exa Z h0 r2 "com/example/entente/entente/Option") (S3_ : Sta Z h0 "com/example/entente/entente/Option" "VALUE_ORDER" "Lcom/example/entente/entente/Option;" (.ref r3)) (E3_ : Exa Z h0 r3 "com/example/entente/entente/Option") (S4_ : Sta Z h0 "com/example/entente/entente/Option" "MAX_CYCLES" "Lcom/example/entente/entente/Option;" (.ref r4)) (E4_ : Exa Z h0 r4 "com/example/entente/entente/Option") (S5_ : Sta Z h0 "com/example/entente/entente/Option" "SEED" "Lcom/example/entente/entente/Option;" (.ref r5)) (E5_ : Exa Z h0 r5 "com/example/entente/entente/Option") (S6_ : Sta Z h0 "com/example/entente/entente/Option" "INITIAL" "Lcom/example/entente/entente/Option;" (.ref r6)) (E6_ : Exa Z h0 r6 "com/example/entente/entente/Option") (S7_ : Sta Z h0 "com/example/entente/entente/Option" "TRACE" "Lcom/example/entente/entente/Option;" (.ref r7)) (E7_ : Exa Z h0 r7 "com/example/entente/entente/Option") (S8_ : Sta Z h0 "com/example/entente/entente/Option" "FILTER" "Lcom/example/entente/entente/Option;" (.ref r8)) (E8_ : Exa Z h0 r8 "com/example/entente/entente/Option") (S9_ : Sta Z h0 "com/example/entente/entente/Option" "COLOURS" "Lcom/example/entente/entente/Option;" (.ref r9)) (E9_ : Exa Z h0 r9 "com/example/entente/entente/Option") (S10_ : Sta Z h0 "com/example/entente/entente/Option" "TRANSPORT" "Lcom/example/entente/entente/Option;" (.ref r10)) (E10_ : Exa Z h0 r10 "com/example/entente/entente/Option") (S11_ : Sta Z h0 "com/example/entente/entente/Option" "PORT_BASE" "Lcom/example/entente/entente/Option;" (.ref r11)) (E11_ : Exa Z h0 r11 "com/example/entente/entente/Option") (S12_ : Sta Z h0 "com/example/entente/entente/Option" "DELAY_MS" "Lcom/example/entente/entente/Option;" (.ref r12)) (E12_ : Exa Z h0 r12 "com/example/entente/entente/Option") (S13_ : Sta Z h0 "com/example/entente/entente/Option" "MAX_SECONDS" "Lcom/example/entente/entente/Option;" (.ref r13)) (E13_ : Exa Z h0 r13 "com/example/entente/entente/Option") (S14_ : Sta Z h0 "com/example/entente/entente/Option" "NAME" "Lcom/example/entente/entente/Option;" (.ref r14)) (E14_ : Exa Z h0 r14 "com/example/entente/entente/Option") (S15_ : Sta Z h0 "com/example/entente/entente/Option" "INDEX" "Lcom/example/entente/entente/Option;" (.ref r15)) (E15_ : Exa Z h0 r15 "com/example/entente/entente/Option") (S16_ : Sta Z h0 "com/example/entente/entente/Option" "COORDINATOR" "Lcom/example/entente/entente/Option;" (.ref r16)) (E16_ : Exa Z h0 r16 "com/example/entente/entente/Option") (S17_ : Sta Z h0 "com/example/entente/entente/Option" "N" "Lcom/example/entente/entente/Option;" (.ref r17)) (E17_ : Exa Z h0 r17 "com/example/entente/entente/Option") (S18_ : Sta Z h0 "com/example/entente/entente/Option" "D" "Lcom/example/entente/entente/Option;" (.ref r18)) (E18_ : Exa Z h0 r18 "com/example/entente/entente/Option") (S19_ : Sta Z h0 "com/example/entente/entente/Option" "P1" "Lcom/example/entente/entente/Option;" (.ref r19)) (E19_ : Exa Z h0 r19 "com/example/entente/entente/Option") (S20_ : Sta Z h0 "com/example/entente/entente/Option" "P2" "Lcom/example/entente/entente/Option;" (.ref r20)) (E20_ : Exa Z h0 r20 "com/example/entente/entente/Option") (S21_ : Sta Z h0 "com/example/entente/entente/Option" "NODES" "Lcom/example/entente/entente/Option;" (.ref r21)) (E21_ : Exa Z h0 r21 "com/example/entente/entente/Option") (S22_ : Sta Z h0 "com/example/entente/entente/Option" "EDGES" "Lcom/example/entente/entente/Option;" (.ref r22)) (E22_ : Exa Z h0 r22 "com/example/entente/entente/Option") (S23_ : Sta Z h0 "com/example/entente/entente/Option" "FAMILY" "Lcom/example/entente/entente/Option;" (.ref r23)) (E23_ : Exa Z h0 r23 "com/example/entente/entente/Option") (S24_ : Sta Z h0 "com/example/entente/entente/Option" "INSTANCES" "Lcom/example/entente/entente/Option;" (.ref r24)) (E24_ : Exa Z h0 r24 "com/example/entente/entente/Option") (S25_ : Sta Z h0 "com/example/entente/entente/Option" "GOAL" "Lcom/example/entente/entente/Option;" (.ref r25)) (E25_ : Exa Z h0 r25 "com/example/entente/entente/Option") (S26_ : Sta Z h0 "com/example/entente/entente/Option" "HELP" "Lcom/example/entente/entente/Option;" (.ref r26)) (E26_ : Exa Z h0 r26 "com/example/entente/entente/Option") (F0_ : Fld Z h0 r0 "com/example/entente/entente/Option" "value" "Ljava/lang/String;" (.ref u0)) (F1_ : Fld Z h0 r1 "com/example/entente/entente/Option" "value" "Ljava/lang/String;" (.ref u1)) (F2_ : Fld Z h0 r2 "com/example/entente/entente/Option" "value" "Ljava/lang/String;" (.ref u2)) (F3_ : Fld Z h0 r3 "com/example/entente/entente/Option" "value" "Ljava/lang/String;" (.ref u3)) (F4_ : Fld Z h0 r4 "com/example/entente/entente/Option" "value" "Ljava/lang/String;" (.ref u4)) (F5_ : Fld Z h0 r5 "com/example/entente/entente/Option" "value" "Ljava/lang/String;" (.ref u5)) (F6_ : Fld Z h0 r6 "com/example/entente/entente/Option" "value" "Ljava/lang/String;" (.ref u6)) (F7_ : Fld Z h0 r7 "com/example/entente/entente/Option" "value" "Ljava/lang/String;" .null) (F8_ : Fld Z h0 r8 "com/example/entente/entente/Option" "value" "Ljava/lang/String;" .null) (F9_ : Fld Z h0 r9 "com/example/entente/entente/Option" "value" "Ljava/lang/String;" (.ref u9)) (F10_ : Fld Z h0 r10 "com/example/entente/entente/Option" "value" "Ljava/lang/String;" (.ref u10)) (F11_ : Fld Z h0 r11 "com/example/entente/entente/Option" "value" "Ljava/lang/String;" (.ref u11)) (F12_ : Fld Z h0 r12 "com/example/entente/entente/Option" "value" "Ljava/lang/String;" (.ref u12)) (F13_ : Fld Z h0 r13 "com/example/entente/entente/Option" "value" "Ljava/lang/String;" (.ref u13)) (F14_ : Fld Z h0 r14 "com/example/entente/entente/Option" "value" "Ljava/lang/String;" (.ref u14)) (F15_ : Fld Z h0 r15 "com/example/entente/entente/Option" "value" "Ljava/lang/String;" (.ref u15)) (F16_ : Fld Z h0 r16 "com/example/entente/entente/Option" "value" "Ljava/lang/String;" (.ref u16)) (F17_ : Fld Z h0 r17 "com/example/entente/entente/Option" "value" "Ljava/lang/String;" (.ref u17)) (F18_ : Fld Z h0 r18 "com/example/entente/entente/Option" "value" "Ljava/lang/String;" (.ref u18)) (F19_ : Fld Z h0 r19 "com/example/entente/entente/Option" "value" "Ljava/lang/String;" (.ref u19)) (F20_ : Fld Z h0 r20 "com/example/entente/entente/Option" "value" "Ljava/lang/String;" (.ref u20)) (F21_ : Fld Z h0 r21 "com/example/entente/entente/Option" "value" "Ljava/lang/String;" (.ref u21)) (F22_ : Fld Z h0 r22 "com/example/entente/entente/Option" "value" "Ljava/lang/String;" (.ref u22)) (F23_ : Fld Z h0 r23 "com/example/entente/entente/Option" "value" "Ljava/lang/String;" (.ref u23)) (F24_ : Fld Z h0 r24 "com/example/entente/entente/Option" "value" "Ljava/lang/String;" (.ref u24)) (F25_ : Fld Z h0 r25 "com/example/entente/entente/Option" "value" "Ljava/lang/String;" (.ref u25)) (F26_ : Fld Z h0 r26 "com/example/entente/entente/Option" "value" "Ljava/lang/String;" .null) :
    MetFree l x (head1 (Jvm.Cond.code x code maxLocals ret :: ws) room_1) (fun a U => a = #[(.int p1)] ∧ Z.Warmed39 U.vm ∧ U.heap = h0) (fun _ _ _ _ _ => True) (fun _ U o U' => ∃ v L, o = .returned v ∧ Qrm0 Z p1 r0 r1 r2 r3 r4 r5 r6 r7 r8 r9 r10 r11 r12 r13 r14 r15 r16 r17 r18 r19 r20 r21 r22 r23 r24 r25 r26 u0 u1 u2 u3 u4 u5 u6 u9 u10 u11 u12 u13 u14 u15 u16 u17 u18 u19 u20 u21 u22 u23 u24 u25 h0 n0 v U'.heap L ∧ FrameEnd U o U' L room_1.cells room_1.slots) := by
  refine MetFree.of_bodySF (plainFor_of_name pn_com_example_entente_entente_OptionTakesValuePinLaw) hisR ?_
  intro p e s m args below meth c s₁ Bd hml0 hP hK
  obtain ⟨rfl, hZ, hh⟩ := hP
  have hx := Bd.exec
  have hby := Bd.bytes
  have hml : c.maxLocals = 6 := hml0
  have hown : s.vm.findClass "com/example/entente/entente/OptionTakesValuePinLaw" = some m.cls := findClass_of_methodNamed Bd.named
  have hnm := (name_of_methodNamed Bd.named Bd.method).1
  have X0 : Stand p l e room_1 s m #[(.int p1)] below meth c s₁ [] 0 0 := Stand.of_body Bd
  have e0 : s₁.heap = h0 := by rw [← hh, Bd.state]; rfl
  have N0 := Fr.nil n0
  have pre0 : ∀ t, Steps p.tables e below (s₁.setTop (mkF m 0 #[.val (.int p1), .unset, .unset, .unset, .unset, .unset] [])) t → Steps p.tables e below (s₁.setTop (entryFrame m #[(.int p1)] maxLocals)) t := fun t k => castTop (ef_rm0 m p1) k
  obtain ⟨TA, LA, hA, bA, kA, XA, NA, eA, ZA, KA, VA, stA⟩ := own_pre p1 r0 r1 r2 r3 r4 r5 r6 r7 r8 r9 r10 r11 r12 r13 r14 r15 r16 r17 r18 r19 r20 r21 r22 r23 r24 r25 r26 X0 hx hZ hw hby hml hown e0 Z0 N0 S0_ E0_ S1_ E1_ S2_ E2_ S3_ E3_ S4_ E4_ S5_ E5_ S6_ E6_ S7_ E7_ S8_ E8_ S9_ E9_ S10_ E10_ S11_ E11_ S12_ E12_ S13_ E13_ S14_ E14_ S15_ E15_ S16_ E16_ S17_ E17_ S18_ E18_ S19_ E19_ S20_ E20_ S21_ E21_ S22_ E22_ S23_ E23_ S24_ E24_ S25_ E25_ S26_ E26_
  obtain ⟨cl, Ar, -, Sz, M_, Hs, -⟩ := VA
  obtain ⟨n, hn, ei⟩ := own_ixc p1
  rw [ei] at stA
  have hin : ¬ (Int32.ofNat n < 0 ∨ cl.slots.size ≤ (Int32.ofNat n).toNatClampNeg) := inb_of Sz (by
    constructor
    · rw [Int32.lt_iff_toInt_lt, Int32.toInt_ofNat_of_lt (by omega)]; have : (0 : Int32).toInt = 0 := by decide
      omega
    · rw [Int32.lt_iff_toInt_lt, Int32.toInt_ofNat_of_lt (by omega)]; have : (27 : Int32).toInt = 27 := by decide
      omega)
  rcases own_27 hn with rfl | rfl | rfl | rfl | rfl | rfl | rfl | rfl | rfl | rfl | rfl | rfl | rfl | rfl | rfl | rfl | rfl | rfl | rfl | rfl | rfl | rfl | rfl | rfl | rfl | rfl | rfl
  · obtain ⟨TB, LB, XB, NB, eB, stB⟩ := own_tr p1 bA r0 (0 : Int32) u0 cl XA hx hZ hw hby hml hown eA ZA NA (E0_.keep KA) (F0_.keep KA nin0) Ar hin (Has.at Hs hin rfl) (by decide) (by decide) (by decide)
    obtain ⟨fs, hr, hrun, hended, hW, hsame⟩ := XB.leave (v := some (.int (1 : Int32))) (fun h => by rw [Bd.returns] at h; cases h)
    refine ⟨_, _, pre0 _ (stA _ (stB _ ?_)), hrun, hended, _, _, rfl, ?_, ⟨_, rfl⟩, hW, hsame.mono (by decide) (by decide)⟩
    · exact retN XB hx (t := .boolean) Bd.returns (by simp) (hb hby at_269) hr
    · exact ⟨rfl, NB⟩
  · obtain ⟨TB, LB, XB, NB, eB, stB⟩ := own_tr p1 bA r1 (1 : Int32) u1 cl XA hx hZ hw hby hml hown eA ZA NA (E1_.keep KA) (F1_.keep KA nin0) Ar hin (Has.at Hs hin rfl) (by decide) (by decide) (by decide)
    obtain ⟨fs, hr, hrun, hended, hW, hsame⟩ := XB.leave (v := some (.int (1 : Int32))) (fun h => by rw [Bd.returns] at h; cases h)
    refine ⟨_, _, pre0 _ (stA _ (stB _ ?_)), hrun, hended, _, _, rfl, ?_, ⟨_, rfl⟩, hW, hsame.mono (by decide) (by decide)⟩
    · exact retN XB hx (t := .boolean) Bd.returns (by simp) (hb hby at_269) hr
    · exact ⟨rfl, NB⟩
  · obtain ⟨TB, LB, XB, NB, eB, stB⟩ := own_tr p1 bA r2 (2 : Int32) u2 cl XA hx hZ hw hby hml hown eA ZA NA (E2_.keep KA) (F2_.keep KA nin0) Ar hin (Has.at Hs hin rfl) (by decide) (by decide) (by decide)
    obtain ⟨fs, hr, hrun, hended, hW, hsame⟩ := XB.leave (v := some (.int (1 : Int32))) (fun h => by rw [Bd.returns] at h; cases h)
    refine ⟨_, _, pre0 _ (stA _ (stB _ ?_)), hrun, hended, _, _, rfl, ?_, ⟨_, rfl⟩, hW, hsame.mono (by decide) (by decide)⟩
    · exact retN XB hx (t := .boolean) Bd.returns (by simp) (hb hby at_269) hr
    · exact ⟨rfl, NB⟩
  · obtain ⟨TB, LB, XB, NB, eB, stB⟩ := own_tr p1 bA r3 (3 : Int32) u3 cl XA hx hZ hw hby hml hown eA ZA NA (E3_.keep KA) (F3_.keep KA nin0) Ar hin (Has.at Hs hin rfl) (by decide) (by decide) (by decide)
    obtain ⟨fs, hr, hrun, hended, hW, hsame⟩ := XB.leave (v := some (.int (1 : Int32))) (fun h => by rw [Bd.returns] at h; cases h)
    refine ⟨_, _, pre0 _ (stA _ (stB _ ?_)), hrun, hended, _, _, rfl, ?_, ⟨_, rfl⟩, hW, hsame.mono (by decide) (by decide)⟩
    · exact retN XB hx (t := .boolean) Bd.returns (by simp) (hb hby at_269) hr
    · exact ⟨rfl, NB⟩
  · obtain ⟨TB, LB, XB, NB, eB, stB⟩ := own_tr p1 bA r4 (4 : Int32) u4 cl XA hx hZ hw hby hml hown eA ZA NA (E4_.keep KA) (F4_.keep KA nin0) Ar hin (Has.at Hs hin rfl) (by decide) (by decide) (by decide)
    obtain ⟨fs, hr, hrun, hended, hW, hsame⟩ := XB.leave (v := some (.int (1 : Int32))) (fun h => by rw [Bd.returns] at h; cases h)
    refine ⟨_, _, pre0 _ (stA _ (stB _ ?_)), hrun, hended, _, _, rfl, ?_, ⟨_, rfl⟩, hW, hsame.mono (by decide) (by decide)⟩
    · exact retN XB hx (t := .boolean) Bd.returns (by simp) (hb hby at_269) hr
    · exact ⟨rfl, NB⟩
  · obtain ⟨TB, LB, XB, NB, eB, stB⟩ := own_tr p1 bA r5 (5 : Int32) u5 cl XA hx hZ hw hby hml hown eA ZA NA (E5_.keep KA) (F5_.keep KA nin0) Ar hin (Has.at Hs hin rfl) (by decide) (by decide) (by decide)
    obtain ⟨fs, hr, hrun, hended, hW, hsame⟩ := XB.leave (v := some (.int (1 : Int32))) (fun h => by rw [Bd.returns] at h; cases h)
    refine ⟨_, _, pre0 _ (stA _ (stB _ ?_)), hrun, hended, _, _, rfl, ?_, ⟨_, rfl⟩, hW, hsame.mono (by decide) (by decide)⟩
    · exact retN XB hx (t := .boolean) Bd.returns (by simp) (hb hby at_269) hr
    · exact ⟨rfl, NB⟩
  · obtain ⟨TB, LB, XB, NB, eB, stB⟩ := own_tr p1 bA r6 (6 : Int32) u6 cl XA hx hZ hw hby hml hown eA ZA NA (E6_.keep KA) (F6_.keep KA nin0) Ar hin (Has.at Hs hin rfl) (by decide) (by decide) (by decide)
    obtain ⟨fs, hr, hrun, hended, hW, hsame⟩ := XB.leave (v := some (.int (1 : Int32))) (fun h => by rw [Bd.returns] at h; cases h)
    refine ⟨_, _, pre0 _ (stA _ (stB _ ?_)), hrun, hended, _, _, rfl, ?_, ⟨_, rfl⟩, hW, hsame.mono (by decide) (by decide)⟩
    · exact retN XB hx (t := .boolean) Bd.returns (by simp) (hb hby at_269) hr
    · exact ⟨rfl, NB⟩
  · obtain ⟨TB, LB, XB, NB, eB, stB⟩ := own_t7 p1 bA r7 cl XA hx hZ hw hby hml hown eA ZA NA (E7_.keep KA) (F7_.keep KA nin0) Ar hin (Has.at Hs hin rfl)
    obtain ⟨fs, hr, hrun, hended, hW, hsame⟩ := XB.leave (v := some (.int (1 : Int32))) (fun h => by rw [Bd.returns] at h; cases h)
    refine ⟨_, _, pre0 _ (stA _ (stB _ ?_)), hrun, hended, _, _, rfl, ?_, ⟨_, rfl⟩, hW, hsame.mono (by decide) (by decide)⟩
    · exact retN XB hx (t := .boolean) Bd.returns (by simp) (hb hby at_269) hr
    · exact ⟨rfl, NB⟩
  · obtain ⟨TB, LB, XB, NB, eB, stB⟩ := own_t8 p1 bA r8 cl XA hx hZ hw hby hml hown eA ZA NA (E8_.keep KA) (F8_.keep KA nin0) Ar hin (Has.at Hs hin rfl)
    obtain ⟨fs, hr, hrun, hended, hW, hsame⟩ := XB.leave (v := some (.int (1 : Int32))) (fun h => by rw [Bd.returns] at h; cases h)
    refine ⟨_, _, pre0 _ (stA _ (stB _ ?_)), hrun, hended, _, _, rfl, ?_, ⟨_, rfl⟩, hW, hsame.mono (by decide) (by decide)⟩
    · exact retN XB hx (t := .boolean) Bd.returns (by simp) (hb hby at_269) hr
    · exact ⟨rfl, NB⟩
  · obtain ⟨TB, LB, XB, NB, eB, stB⟩ := own_tr p1 bA r9 (9 : Int32) u9 cl XA hx hZ hw hby hml hown eA ZA NA (E9_.keep KA) (F9_.keep KA nin0) Ar hin (Has.at Hs hin rfl) (by decide) (by decide) (by decide)
    obtain ⟨fs, hr, hrun, hended, hW, hsame⟩ := XB.leave (v := some (.int (1 : Int32))) (fun h => by rw [Bd.returns] at h; cases h)
    refine ⟨_, _, pre0 _ (stA _ (stB _ ?_)), hrun, hended, _, _, rfl, ?_, ⟨_, rfl⟩, hW, hsame.mono (by decide) (by decide)⟩
    · exact retN XB hx (t := .boolean) Bd.returns (by simp) (hb hby at_269) hr
    · exact ⟨rfl, NB⟩
  · obtain ⟨TB, LB, XB, NB, eB, stB⟩ := own_tr p1 bA r10 (10 : Int32) u10 cl XA hx hZ hw hby hml hown eA ZA NA (E10_.keep KA) (F10_.keep KA nin0) Ar hin (Has.at Hs hin rfl) (by decide) (by decide) (by decide)
    obtain ⟨fs, hr, hrun, hended, hW, hsame⟩ := XB.leave (v := some (.int (1 : Int32))) (fun h => by rw [Bd.returns] at h; cases h)
    refine ⟨_, _, pre0 _ (stA _ (stB _ ?_)), hrun, hended, _, _, rfl, ?_, ⟨_, rfl⟩, hW, hsame.mono (by decide) (by decide)⟩
    · exact retN XB hx (t := .boolean) Bd.returns (by simp) (hb hby at_269) hr
    · exact ⟨rfl, NB⟩
  · obtain ⟨TB, LB, XB, NB, eB, stB⟩ := own_tr p1 bA r11 (11 : Int32) u11 cl XA hx hZ hw hby hml hown eA ZA NA (E11_.keep KA) (F11_.keep KA nin0) Ar hin (Has.at Hs hin rfl) (by decide) (by decide) (by decide)
    obtain ⟨fs, hr, hrun, hended, hW, hsame⟩ := XB.leave (v := some (.int (1 : Int32))) (fun h => by rw [Bd.returns] at h; cases h)
    refine ⟨_, _, pre0 _ (stA _ (stB _ ?_)), hrun, hended, _, _, rfl, ?_, ⟨_, rfl⟩, hW, hsame.mono (by decide) (by decide)⟩
    · exact retN XB hx (t := .boolean) Bd.returns (by simp) (hb hby at_269) hr
    · exact ⟨rfl, NB⟩
  · obtain ⟨TB, LB, XB, NB, eB, stB⟩ := own_tr p1 bA r12 (12 : Int32) u12 cl XA hx hZ hw hby hml hown eA ZA NA (E12_.keep KA) (F12_.keep KA nin0) Ar hin (Has.at Hs hin rfl) (by decide) (by decide) (by decide)
    obtain ⟨fs, hr, hrun, hended, hW, hsame⟩ := XB.leave (v := some (.int (1 : Int32))) (fun h => by rw [Bd.returns] at h; cases h)
    refine ⟨_, _, pre0 _ (stA _ (stB _ ?_)), hrun, hended, _, _, rfl, ?_, ⟨_, rfl⟩, hW, hsame.mono (by decide) (by decide)⟩
    · exact retN XB hx (t := .boolean) Bd.returns (by simp) (hb hby at_269) hr
    · exact ⟨rfl, NB⟩
  · obtain ⟨TB, LB, XB, NB, eB, stB⟩ := own_tr p1 bA r13 (13 : Int32) u13 cl XA hx hZ hw hby hml hown eA ZA NA (E13_.keep KA) (F13_.keep KA nin0) Ar hin (Has.at Hs hin rfl) (by decide) (by decide) (by decide)
    obtain ⟨fs, hr, hrun, hended, hW, hsame⟩ := XB.leave (v := some (.int (1 : Int32))) (fun h => by rw [Bd.returns] at h; cases h)
    refine ⟨_, _, pre0 _ (stA _ (stB _ ?_)), hrun, hended, _, _, rfl, ?_, ⟨_, rfl⟩, hW, hsame.mono (by decide) (by decide)⟩
    · exact retN XB hx (t := .boolean) Bd.returns (by simp) (hb hby at_269) hr
    · exact ⟨rfl, NB⟩
  · obtain ⟨TB, LB, XB, NB, eB, stB⟩ := own_tr p1 bA r14 (14 : Int32) u14 cl XA hx hZ hw hby hml hown eA ZA NA (E14_.keep KA) (F14_.keep KA nin0) Ar hin (Has.at Hs hin rfl) (by decide) (by decide) (by decide)
    obtain ⟨fs, hr, hrun, hended, hW, hsame⟩ := XB.leave (v := some (.int (1 : Int32))) (fun h => by rw [Bd.returns] at h; cases h)
    refine ⟨_, _, pre0 _ (stA _ (stB _ ?_)), hrun, hended, _, _, rfl, ?_, ⟨_, rfl⟩, hW, hsame.mono (by decide) (by decide)⟩
    · exact retN XB hx (t := .boolean) Bd.returns (by simp) (hb hby at_269) hr
    · exact ⟨rfl, NB⟩
  · obtain ⟨TB, LB, XB, NB, eB, stB⟩ := own_tr p1 bA r15 (15 : Int32) u15 cl XA hx hZ hw hby hml hown eA ZA NA (E15_.keep KA) (F15_.keep KA nin0) Ar hin (Has.at Hs hin rfl) (by decide) (by decide) (by decide)
    obtain ⟨fs, hr, hrun, hended, hW, hsame⟩ := XB.leave (v := some (.int (1 : Int32))) (fun h => by rw [Bd.returns] at h; cases h)
    refine ⟨_, _, pre0 _ (stA _ (stB _ ?_)), hrun, hended, _, _, rfl, ?_, ⟨_, rfl⟩, hW, hsame.mono (by decide) (by decide)⟩
    · exact retN XB hx (t := .boolean) Bd.returns (by simp) (hb hby at_269) hr
    · exact ⟨rfl, NB⟩
  · obtain ⟨TB, LB, XB, NB, eB, stB⟩ := own_tr p1 bA r16 (16 : Int32) u16 cl XA hx hZ hw hby hml hown eA ZA NA (E16_.keep KA) (F16_.keep KA nin0) Ar hin (Has.at Hs hin rfl) (by decide) (by decide) (by decide)
    obtain ⟨fs, hr, hrun, hended, hW, hsame⟩ := XB.leave (v := some (.int (1 : Int32))) (fun h => by rw [Bd.returns] at h; cases h)
    refine ⟨_, _, pre0 _ (stA _ (stB _ ?_)), hrun, hended, _, _, rfl, ?_, ⟨_, rfl⟩, hW, hsame.mono (by decide) (by decide)⟩
    · exact retN XB hx (t := .boolean) Bd.returns (by simp) (hb hby at_269) hr
    · exact ⟨rfl, NB⟩
  · obtain ⟨TB, LB, XB, NB, eB, stB⟩ := own_tr p1 bA r17 (17 : Int32) u17 cl XA hx hZ hw hby hml hown eA ZA NA (E17_.keep KA) (F17_.keep KA nin0) Ar hin (Has.at Hs hin rfl) (by decide) (by decide) (by decide)
    obtain ⟨fs, hr, hrun, hended, hW, hsame⟩ := XB.leave (v := some (.int (1 : Int32))) (fun h => by rw [Bd.returns] at h; cases h)
    refine ⟨_, _, pre0 _ (stA _ (stB _ ?_)), hrun, hended, _, _, rfl, ?_, ⟨_, rfl⟩, hW, hsame.mono (by decide) (by decide)⟩
    · exact retN XB hx (t := .boolean) Bd.returns (by simp) (hb hby at_269) hr
    · exact ⟨rfl, NB⟩
  · obtain ⟨TB, LB, XB, NB, eB, stB⟩ := own_tr p1 bA r18 (18 : Int32) u18 cl XA hx hZ hw hby hml hown eA ZA NA (E18_.keep KA) (F18_.keep KA nin0) Ar hin (Has.at Hs hin rfl) (by decide) (by decide) (by decide)
    obtain ⟨fs, hr, hrun, hended, hW, hsame⟩ := XB.leave (v := some (.int (1 : Int32))) (fun h => by rw [Bd.returns] at h; cases h)
    refine ⟨_, _, pre0 _ (stA _ (stB _ ?_)), hrun, hended, _, _, rfl, ?_, ⟨_, rfl⟩, hW, hsame.mono (by decide) (by decide)⟩
    · exact retN XB hx (t := .boolean) Bd.returns (by simp) (hb hby at_269) hr
    · exact ⟨rfl, NB⟩
  · obtain ⟨TB, LB, XB, NB, eB, stB⟩ := own_tr p1 bA r19 (19 : Int32) u19 cl XA hx hZ hw hby hml hown eA ZA NA (E19_.keep KA) (F19_.keep KA nin0) Ar hin (Has.at Hs hin rfl) (by decide) (by decide) (by decide)
    obtain ⟨fs, hr, hrun, hended, hW, hsame⟩ := XB.leave (v := some (.int (1 : Int32))) (fun h => by rw [Bd.returns] at h; cases h)
    refine ⟨_, _, pre0 _ (stA _ (stB _ ?_)), hrun, hended, _, _, rfl, ?_, ⟨_, rfl⟩, hW, hsame.mono (by decide) (by decide)⟩
    · exact retN XB hx (t := .boolean) Bd.returns (by simp) (hb hby at_269) hr
    · exact ⟨rfl, NB⟩
  · obtain ⟨TB, LB, XB, NB, eB, stB⟩ := own_tr p1 bA r20 (20 : Int32) u20 cl XA hx hZ hw hby hml hown eA ZA NA (E20_.keep KA) (F20_.keep KA nin0) Ar hin (Has.at Hs hin rfl) (by decide) (by decide) (by decide)
    obtain ⟨fs, hr, hrun, hended, hW, hsame⟩ := XB.leave (v := some (.int (1 : Int32))) (fun h => by rw [Bd.returns] at h; cases h)
    refine ⟨_, _, pre0 _ (stA _ (stB _ ?_)), hrun, hended, _, _, rfl, ?_, ⟨_, rfl⟩, hW, hsame.mono (by decide) (by decide)⟩
    · exact retN XB hx (t := .boolean) Bd.returns (by simp) (hb hby at_269) hr
    · exact ⟨rfl, NB⟩
  · obtain ⟨TB, LB, XB, NB, eB, stB⟩ := own_tr p1 bA r21 (21 : Int32) u21 cl XA hx hZ hw hby hml hown eA ZA NA (E21_.keep KA) (F21_.keep KA nin0) Ar hin (Has.at Hs hin rfl) (by decide) (by decide) (by decide)
    obtain ⟨fs, hr, hrun, hended, hW, hsame⟩ := XB.leave (v := some (.int (1 : Int32))) (fun h => by rw [Bd.returns] at h; cases h)
    refine ⟨_, _, pre0 _ (stA _ (stB _ ?_)), hrun, hended, _, _, rfl, ?_, ⟨_, rfl⟩, hW, hsame.mono (by decide) (by decide)⟩
    · exact retN XB hx (t := .boolean) Bd.returns (by simp) (hb hby at_269) hr
    · exact ⟨rfl, NB⟩
  · obtain ⟨TB, LB, XB, NB, eB, stB⟩ := own_tr p1 bA r22 (22 : Int32) u22 cl XA hx hZ hw hby hml hown eA ZA NA (E22_.keep KA) (F22_.keep KA nin0) Ar hin (Has.at Hs hin rfl) (by decide) (by decide) (by decide)
    obtain ⟨fs, hr, hrun, hended, hW, hsame⟩ := XB.leave (v := some (.int (1 : Int32))) (fun h => by rw [Bd.returns] at h; cases h)
    refine ⟨_, _, pre0 _ (stA _ (stB _ ?_)), hrun, hended, _, _, rfl, ?_, ⟨_, rfl⟩, hW, hsame.mono (by decide) (by decide)⟩
    · exact retN XB hx (t := .boolean) Bd.returns (by simp) (hb hby at_269) hr
    · exact ⟨rfl, NB⟩
  · obtain ⟨TB, LB, XB, NB, eB, stB⟩ := own_tr p1 bA r23 (23 : Int32) u23 cl XA hx hZ hw hby hml hown eA ZA NA (E23_.keep KA) (F23_.keep KA nin0) Ar hin (Has.at Hs hin rfl) (by decide) (by decide) (by decide)
    obtain ⟨fs, hr, hrun, hended, hW, hsame⟩ := XB.leave (v := some (.int (1 : Int32))) (fun h => by rw [Bd.returns] at h; cases h)
    refine ⟨_, _, pre0 _ (stA _ (stB _ ?_)), hrun, hended, _, _, rfl, ?_, ⟨_, rfl⟩, hW, hsame.mono (by decide) (by decide)⟩
    · exact retN XB hx (t := .boolean) Bd.returns (by simp) (hb hby at_269) hr
    · exact ⟨rfl, NB⟩
  · obtain ⟨TB, LB, XB, NB, eB, stB⟩ := own_tr p1 bA r24 (24 : Int32) u24 cl XA hx hZ hw hby hml hown eA ZA NA (E24_.keep KA) (F24_.keep KA nin0) Ar hin (Has.at Hs hin rfl) (by decide) (by decide) (by decide)
    obtain ⟨fs, hr, hrun, hended, hW, hsame⟩ := XB.leave (v := some (.int (1 : Int32))) (fun h => by rw [Bd.returns] at h; cases h)
    refine ⟨_, _, pre0 _ (stA _ (stB _ ?_)), hrun, hended, _, _, rfl, ?_, ⟨_, rfl⟩, hW, hsame.mono (by decide) (by decide)⟩
    · exact retN XB hx (t := .boolean) Bd.returns (by simp) (hb hby at_269) hr
    · exact ⟨rfl, NB⟩
  · obtain ⟨TB, LB, XB, NB, eB, stB⟩ := own_tr p1 bA r25 (25 : Int32) u25 cl XA hx hZ hw hby hml hown eA ZA NA (E25_.keep KA) (F25_.keep KA nin0) Ar hin (Has.at Hs hin rfl) (by decide) (by decide) (by decide)
    obtain ⟨fs, hr, hrun, hended, hW, hsame⟩ := XB.leave (v := some (.int (1 : Int32))) (fun h => by rw [Bd.returns] at h; cases h)
    refine ⟨_, _, pre0 _ (stA _ (stB _ ?_)), hrun, hended, _, _, rfl, ?_, ⟨_, rfl⟩, hW, hsame.mono (by decide) (by decide)⟩
    · exact retN XB hx (t := .boolean) Bd.returns (by simp) (hb hby at_269) hr
    · exact ⟨rfl, NB⟩
  · obtain ⟨TB, LB, XB, NB, eB, stB⟩ := own_t26 p1 bA r26 cl XA hx hZ hw hby hml hown eA ZA NA (E26_.keep KA) (F26_.keep KA nin0) Ar hin (Has.at Hs hin rfl)
    obtain ⟨fs, hr, hrun, hended, hW, hsame⟩ := XB.leave (v := some (.int (1 : Int32))) (fun h => by rw [Bd.returns] at h; cases h)
    refine ⟨_, _, pre0 _ (stA _ (stB _ ?_)), hrun, hended, _, _, rfl, ?_, ⟨_, rfl⟩, hW, hsame.mono (by decide) (by decide)⟩
    · exact retN XB hx (t := .boolean) Bd.returns (by simp) (hb hby at_269) hr
    · exact ⟨rfl, NB⟩
set_option maxRecDepth 65536 in
set_option maxHeartbeats 40000000 in
theorem comes_1 {Post : Tables → Env → Array Value → State → Outcome → State → Prop} (hpost : ∀ tb e args s v u, (limb_1_1.after args s (.returned v) u = true ∧ limb_1_2.after args s (.returned v) u = true ∧ True) → FrameEnd s (.returned v) u (Jvm.fieldLocs frame_1_writes args s ++ Jvm.arrayLocs frame_1_arrays args s ++ Jvm.staticLocs frame_1_statics s) 16 128 → Post tb e args s (.returned v) u) :
    ArmFor flags0 classFile x code maxLocals ret World_1 tables_1 room_1 Calls_1 rest_1 Pre_1 Post := by
  intro l hfl _ _ p e ha hc hk s m args below hf hA hF happ hP
  obtain ⟨hcalls, hrest, hpre⟩ := hP
  obtain ⟨-, -, -, hnamed, -, -, -, hat⟩ := (Spec.applies_iff hf).mp happ
  obtain ⟨hg, hn⟩ := and_e (Cond.before_iff.mp (show (Jvm.Cond.and given_1 narrow_1).before args s = true from hpre))
  obtain ⟨gv1, gv2⟩ := and_e hg
  obtain ⟨w0, rfl⟩ : ∃ w0 : Value, args = #[w0] := by
    have hs : args.size = 1 := by simpa [Cond.value, given_1] using gv1
    obtain ⟨L⟩ := args
    match L, hs with
    | [w0], _ => exact ⟨w0, rfl⟩
  have hw := fun d (hd : d ∈ tables_1) => atoms_spec (ws := Jvm.Cond.code x code maxLocals ret :: tables_1) hat d (List.mem_cons_of_mem _ hd)
  have hfit : Fit s := fun {y c} hc i hi => by
    obtain ⟨ha, rfl⟩ := Array.getElem?_eq_some_iff.mp hc
    have q := List.all_eq_true.mp ((Array.all_eq_true_iff_forall_mem.mp hF) _ (Array.getElem_mem ha)) i (List.mem_range.mpr hi)
    simpa [Array.getElem?_eq_getElem hi] using q
  obtain ⟨i0, ei0⟩ := is_v gv2
  obtain rfl : w0 = (.int i0) := Option.some.inj ei0
  obtain ⟨c0, hn⟩ := and_e hn
  obtain ⟨c1, hn⟩ := and_e hn
  obtain ⟨c2, hn⟩ := and_e hn
  obtain ⟨c3, hn⟩ := and_e hn
  obtain ⟨c4, hn⟩ := and_e hn
  obtain ⟨c5, hn⟩ := and_e hn
  obtain ⟨c6, hn⟩ := and_e hn
  obtain ⟨c7, hn⟩ := and_e hn
  obtain ⟨c8, hn⟩ := and_e hn
  obtain ⟨c9, hn⟩ := and_e hn
  obtain ⟨c10, hn⟩ := and_e hn
  obtain ⟨c11, hn⟩ := and_e hn
  obtain ⟨c12, hn⟩ := and_e hn
  obtain ⟨c13, hn⟩ := and_e hn
  obtain ⟨c14, hn⟩ := and_e hn
  obtain ⟨c15, hn⟩ := and_e hn
  obtain ⟨c16, hn⟩ := and_e hn
  obtain ⟨c17, hn⟩ := and_e hn
  obtain ⟨c18, hn⟩ := and_e hn
  obtain ⟨c19, hn⟩ := and_e hn
  obtain ⟨c20, hn⟩ := and_e hn
  obtain ⟨c21, hn⟩ := and_e hn
  obtain ⟨c22, hn⟩ := and_e hn
  obtain ⟨c23, hn⟩ := and_e hn
  obtain ⟨c24, hn⟩ := and_e hn
  obtain ⟨c25, hn⟩ := and_e hn
  obtain ⟨c26, hn⟩ := and_e hn
  obtain ⟨c27, hn⟩ := and_e hn
  obtain ⟨c28, hn⟩ := and_e hn
  obtain ⟨c29, hn⟩ := and_e hn
  obtain ⟨c30, hn⟩ := and_e hn
  obtain ⟨c31, hn⟩ := and_e hn
  obtain ⟨c32, hn⟩ := and_e hn
  obtain ⟨c33, hn⟩ := and_e hn
  obtain ⟨c34, hn⟩ := and_e hn
  obtain ⟨c35, hn⟩ := and_e hn
  obtain ⟨c36, hn⟩ := and_e hn
  obtain ⟨c37, hn⟩ := and_e hn
  obtain ⟨c38, hn⟩ := and_e hn
  obtain ⟨c39, hn⟩ := and_e hn
  obtain ⟨c40, hn⟩ := and_e hn
  obtain ⟨c41, hn⟩ := and_e hn
  obtain ⟨c42, hn⟩ := and_e hn
  obtain ⟨c43, hn⟩ := and_e hn
  obtain ⟨c44, hn⟩ := and_e hn
  obtain ⟨c45, hn⟩ := and_e hn
  obtain ⟨c46, hn⟩ := and_e hn
  obtain ⟨c47, hn⟩ := and_e hn
  obtain ⟨c48, hn⟩ := and_e hn
  obtain ⟨c49, hn⟩ := and_e hn
  obtain ⟨c50, hn⟩ := and_e hn
  obtain ⟨c51, hn⟩ := and_e hn
  obtain ⟨c52, hn⟩ := and_e hn
  have c53 := hn
  obtain ⟨r0, ev0⟩ := exa_v c0
  have E0_ := Exa.start ev0 c0
  have S0_ := Sta.start ev0 (Or.inr ⟨(hw _ (List.mem_of_getElem? (i := 3) rfl)), (hw _ (List.mem_of_getElem? (i := 4) rfl))⟩)
  obtain ⟨r1, ev1⟩ := exa_v c1
  have E1_ := Exa.start ev1 c1
  have S1_ := Sta.start ev1 (Or.inr ⟨(hw _ (List.mem_of_getElem? (i := 3) rfl)), (hw _ (List.mem_of_getElem? (i := 7) rfl))⟩)
  obtain ⟨r2, ev2⟩ := exa_v c2
  have E2_ := Exa.start ev2 c2
  have S2_ := Sta.start ev2 (Or.inr ⟨(hw _ (List.mem_of_getElem? (i := 3) rfl)), (hw _ (List.mem_of_getElem? (i := 9) rfl))⟩)
  obtain ⟨r3, ev3⟩ := exa_v c3
  have E3_ := Exa.start ev3 c3
  have S3_ := Sta.start ev3 (Or.inr ⟨(hw _ (List.mem_of_getElem? (i := 3) rfl)), (hw _ (List.mem_of_getElem? (i := 11) rfl))⟩)
  obtain ⟨r4, ev4⟩ := exa_v c4
  have E4_ := Exa.start ev4 c4
  have S4_ := Sta.start ev4 (Or.inr ⟨(hw _ (List.mem_of_getElem? (i := 3) rfl)), (hw _ (List.mem_of_getElem? (i := 13) rfl))⟩)
  obtain ⟨r5, ev5⟩ := exa_v c5
  have E5_ := Exa.start ev5 c5
  have S5_ := Sta.start ev5 (Or.inr ⟨(hw _ (List.mem_of_getElem? (i := 3) rfl)), (hw _ (List.mem_of_getElem? (i := 15) rfl))⟩)
  obtain ⟨r6, ev6⟩ := exa_v c6
  have E6_ := Exa.start ev6 c6
  have S6_ := Sta.start ev6 (Or.inr ⟨(hw _ (List.mem_of_getElem? (i := 3) rfl)), (hw _ (List.mem_of_getElem? (i := 17) rfl))⟩)
  obtain ⟨r7, ev7⟩ := exa_v c7
  have E7_ := Exa.start ev7 c7
  have S7_ := Sta.start ev7 (Or.inr ⟨(hw _ (List.mem_of_getElem? (i := 3) rfl)), (hw _ (List.mem_of_getElem? (i := 19) rfl))⟩)
  obtain ⟨r8, ev8⟩ := exa_v c8
  have E8_ := Exa.start ev8 c8
  have S8_ := Sta.start ev8 (Or.inr ⟨(hw _ (List.mem_of_getElem? (i := 3) rfl)), (hw _ (List.mem_of_getElem? (i := 21) rfl))⟩)
  obtain ⟨r9, ev9⟩ := exa_v c9
  have E9_ := Exa.start ev9 c9
  have S9_ := Sta.start ev9 (Or.inr ⟨(hw _ (List.mem_of_getElem? (i := 3) rfl)), (hw _ (List.mem_of_getElem? (i := 23) rfl))⟩)
  obtain ⟨r10, ev10⟩ := exa_v c10
  have E10_ := Exa.start ev10 c10
  have S10_ := Sta.start ev10 (Or.inr ⟨(hw _ (List.mem_of_getElem? (i := 3) rfl)), (hw _ (List.mem_of_getElem? (i := 25) rfl))⟩)
  obtain ⟨r11, ev11⟩ := exa_v c11
  have E11_ := Exa.start ev11 c11
  have S11_ := Sta.start ev11 (Or.inr ⟨(hw _ (List.mem_of_getElem? (i := 3) rfl)), (hw _ (List.mem_of_getElem? (i := 27) rfl))⟩)
  obtain ⟨r12, ev12⟩ := exa_v c12
  have E12_ := Exa.start ev12 c12
  have S12_ := Sta.start ev12 (Or.inr ⟨(hw _ (List.mem_of_getElem? (i := 3) rfl)), (hw _ (List.mem_of_getElem? (i := 29) rfl))⟩)
  obtain ⟨r13, ev13⟩ := exa_v c13
  have E13_ := Exa.start ev13 c13
  have S13_ := Sta.start ev13 (Or.inr ⟨(hw _ (List.mem_of_getElem? (i := 3) rfl)), (hw _ (List.mem_of_getElem? (i := 31) rfl))⟩)
  obtain ⟨r14, ev14⟩ := exa_v c14
  have E14_ := Exa.start ev14 c14
  have S14_ := Sta.start ev14 (Or.inr ⟨(hw _ (List.mem_of_getElem? (i := 3) rfl)), (hw _ (List.mem_of_getElem? (i := 33) rfl))⟩)
  obtain ⟨r15, ev15⟩ := exa_v c15
  have E15_ := Exa.start ev15 c15
  have S15_ := Sta.start ev15 (Or.inr ⟨(hw _ (List.mem_of_getElem? (i := 3) rfl)), (hw _ (List.mem_of_getElem? (i := 35) rfl))⟩)
  obtain ⟨r16, ev16⟩ := exa_v c16
  have E16_ := Exa.start ev16 c16
  have S16_ := Sta.start ev16 (Or.inr ⟨(hw _ (List.mem_of_getElem? (i := 3) rfl)), (hw _ (List.mem_of_getElem? (i := 37) rfl))⟩)
  obtain ⟨r17, ev17⟩ := exa_v c17
  have E17_ := Exa.start ev17 c17
  have S17_ := Sta.start ev17 (Or.inr ⟨(hw _ (List.mem_of_getElem? (i := 3) rfl)), (hw _ (List.mem_of_getElem? (i := 39) rfl))⟩)
  obtain ⟨r18, ev18⟩ := exa_v c18
  have E18_ := Exa.start ev18 c18
  have S18_ := Sta.start ev18 (Or.inr ⟨(hw _ (List.mem_of_getElem? (i := 3) rfl)), (hw _ (List.mem_of_getElem? (i := 41) rfl))⟩)
  obtain ⟨r19, ev19⟩ := exa_v c19
  have E19_ := Exa.start ev19 c19
  have S19_ := Sta.start ev19 (Or.inr ⟨(hw _ (List.mem_of_getElem? (i := 3) rfl)), (hw _ (List.mem_of_getElem? (i := 43) rfl))⟩)
  obtain ⟨r20, ev20⟩ := exa_v c20
  have E20_ := Exa.start ev20 c20
  have S20_ := Sta.start ev20 (Or.inr ⟨(hw _ (List.mem_of_getElem? (i := 3) rfl)), (hw _ (List.mem_of_getElem? (i := 45) rfl))⟩)
  obtain ⟨r21, ev21⟩ := exa_v c21
  have E21_ := Exa.start ev21 c21
  have S21_ := Sta.start ev21 (Or.inr ⟨(hw _ (List.mem_of_getElem? (i := 3) rfl)), (hw _ (List.mem_of_getElem? (i := 47) rfl))⟩)
  obtain ⟨r22, ev22⟩ := exa_v c22
  have E22_ := Exa.start ev22 c22
  have S22_ := Sta.start ev22 (Or.inr ⟨(hw _ (List.mem_of_getElem? (i := 3) rfl)), (hw _ (List.mem_of_getElem? (i := 49) rfl))⟩)
  obtain ⟨r23, ev23⟩ := exa_v c23
  have E23_ := Exa.start ev23 c23
  have S23_ := Sta.start ev23 (Or.inr ⟨(hw _ (List.mem_of_getElem? (i := 3) rfl)), (hw _ (List.mem_of_getElem? (i := 51) rfl))⟩)
  obtain ⟨r24, ev24⟩ := exa_v c24
  have E24_ := Exa.start ev24 c24
  have S24_ := Sta.start ev24 (Or.inr ⟨(hw _ (List.mem_of_getElem? (i := 3) rfl)), (hw _ (List.mem_of_getElem? (i := 53) rfl))⟩)
  obtain ⟨r25, ev25⟩ := exa_v c25
  have E25_ := Exa.start ev25 c25
  have S25_ := Sta.start ev25 (Or.inr ⟨(hw _ (List.mem_of_getElem? (i := 3) rfl)), (hw _ (List.mem_of_getElem? (i := 55) rfl))⟩)
  obtain ⟨r26, ev26⟩ := exa_v c26
  have E26_ := Exa.start ev26 c26
  have S26_ := Sta.start ev26 (Or.inr ⟨(hw _ (List.mem_of_getElem? (i := 3) rfl)), (hw _ (List.mem_of_getElem? (i := 57) rfl))⟩)
  obtain ⟨u0, fv0⟩ := exa_v c27
  have F0_ := own_fldR ev0 fv0
  obtain ⟨u3, fv3⟩ := exa_v c28
  have F3_ := own_fldR ev3 fv3
  obtain ⟨u2, fv2⟩ := exa_v c29
  have F2_ := own_fldR ev2 fv2
  obtain ⟨u10, fv10⟩ := exa_v c30
  have F10_ := own_fldR ev10 fv10
  obtain ⟨u21, fv21⟩ := exa_v c31
  have F21_ := own_fldR ev21 fv21
  have fv20 := own_eqR c32 fv2
  have F20_ := own_fldR ev20 fv20
  have F7_ := own_fldR ev7 (null_v c33)
  have fv11 := own_eqR c34 fv2
  have F11_ := own_fldR ev11 fv11
  obtain ⟨u22, fv22⟩ := exa_v c35
  have F22_ := own_fldR ev22 fv22
  have F8_ := own_fldR ev8 (null_v c36)
  obtain ⟨u1, fv1⟩ := exa_v c37
  have F1_ := own_fldR ev1 fv1
  obtain ⟨u25, fv25⟩ := exa_v c38
  have F25_ := own_fldR ev25 fv25
  obtain ⟨u15, fv15⟩ := exa_v c39
  have F15_ := own_fldR ev15 fv15
  have fv4 := own_eqR c40 fv21
  have F4_ := own_fldR ev4 fv4
  obtain ⟨u16, fv16⟩ := exa_v c41
  have F16_ := own_fldR ev16 fv16
  obtain ⟨u6, fv6⟩ := exa_v c42
  have F6_ := own_fldR ev6 fv6
  have fv19 := own_eqR c43 fv2
  have F19_ := own_fldR ev19 fv19
  have fv13 := own_eqR c44 fv21
  have F13_ := own_fldR ev13 fv13
  have fv14 := own_eqR c45 fv0
  have F14_ := own_fldR ev14 fv14
  have fv17 := own_eqR c46 fv21
  have F17_ := own_fldR ev17 fv17
  have F26_ := own_fldR ev26 (null_v c47)
  obtain ⟨u12, fv12⟩ := exa_v c48
  have F12_ := own_fldR ev12 fv12
  obtain ⟨u5, fv5⟩ := exa_v c49
  have F5_ := own_fldR ev5 fv5
  obtain ⟨u18, fv18⟩ := exa_v c50
  have F18_ := own_fldR ev18 fv18
  have fv9 := own_eqR c51 fv1
  have F9_ := own_fldR ev9 fv9
  have fv24 := own_eqR c52 fv15
  have F24_ := own_fldR ev24 fv24
  obtain ⟨u23, fv23⟩ := exa_v c53
  have F23_ := own_fldR ev23 fv23
  obtain ⟨n, o, h1, h2, h3, _, L, rfl, ⟨rfl, N⟩, hq⟩ := rm0 l s _ hw tables_1 i0 r0 r1 r2 r3 r4 r5 r6 r7 r8 r9 r10 r11 r12 r13 r14 r15 r16 r17 r18 r19 r20 r21 r22 r23 r24 r25 r26 u0 u1 u2 u3 u21 u5 u6 u1 u10 u2 u12 u21 u0 u15 u16 u21 u18 u2 u2 u21 u22 u23 u15 u25 s.heap s.heap.size (Nat.le_refl _) S0_ E0_ S1_ E1_ S2_ E2_ S3_ E3_ S4_ E4_ S5_ E5_ S6_ E6_ S7_ E7_ S8_ E8_ S9_ E9_ S10_ E10_ S11_ E11_ S12_ E12_ S13_ E13_ S14_ E14_ S15_ E15_ S16_ E16_ S17_ E17_ S18_ E18_ S19_ E19_ S20_ E20_ S21_ E21_ S22_ E22_ S23_ E23_ S24_ E24_ S25_ E25_ S26_ E26_ F0_ F1_ F2_ F3_ F4_ F5_ F6_ F7_ F8_ F9_ F10_ F11_ F12_ F13_ F14_ F15_ F16_ F17_ F18_ F19_ F20_ F21_ F22_ F23_ F24_ F25_ F26_ p e ha hc hk s m _ below hf ((Spec.applies_iff_loose hf).mp happ).1 ⟨rfl, State.Warmed39.refl s, rfl⟩ trivial
  refine ⟨n, _, h1, h2, h3, hpost _ _ _ _ _ _ ⟨Cond.after_iff.mpr rfl, Cond.after_iff.mpr (eq_i res_at (Term.int_eval (1)) rfl), trivial⟩ ⟨hq.1, hq.2.1, (hq.2.2.sift fun y hy => Or.inr (N y hy)).mono (by decide) (by decide)⟩⟩
theorem main_1_1 : Claimed_1_1 := comes_1 fun _ _ _ _ _ _ h hF => ⟨h.1, hF⟩
theorem main_1_2 : Claimed_1_2 := comes_1 fun _ _ _ _ _ _ h hF => ⟨h.2.1, hF⟩
end Jvm.Pilot.@@N@@
namespace Jvm.Pilot.@@N@@
open Jvm Jvm.ClassFile Sem Op Lib Jvm.Free Jvm.Stand Jvm.Pilot.@@N@@.Jvm.D
/-! MADE BY PROGRAM (witnessworld.py) out of the Statement's table words and the real class files: 17 classes; the members and pool entries that the words name. The judged class is class 1, her method 1. -/
namespace start1
open Jvm.ClassFile
def u (s : String) : CpInfo := .utf8 (stringToUtf16 s)
/-- a pool by its gaps: so many unusable entries, then the entry; so many at the end -/
def gap : Nat → List CpInfo → List CpInfo
  | 0, r => r
  | n + 1, r => .unusable :: gap n r
def poolList (es : List (Nat × CpInfo)) (last : Nat) : List CpInfo := es.foldr (fun e r => gap e.1 (e.2 :: r)) (gap last [])
def pool (es : List (Nat × CpInfo)) (last : Nat) : Array CpInfo := ⟨poolList es last⟩
def fileOf (pool : Array CpInfo) (this : Nat) (attrs : Array Attribute := #[]) (ms : Array MethodInfo := #[]) (fl : Nat := 33) (sup : Nat := 0) (ifs : Array Nat := #[]) (fds : Array FieldInfo := #[]) : ClassFile where
  minorVersion := 0
  majorVersion := 65
  constantPool := pool
  accessFlags := fl
  thisClass := this
  superClass := sup
  interfaces := ifs
  fields := fds
  methods := ms
  attributes := attrs
def plain (name : String) (sup : Option ClassId) : Class where
  name := name
  kind := .ordinary
  loader := none
  accessFlags := 33
  super := sup
  interfaces := #[]
  cf := none
  fields := #[]
  methods := #[]
  instanceTypes := #[]
  staticTypes := #[]
  resolved := #[]
  callSites := []
  init := .initialized
  statics := none
  mirror := none

def pool0 : Array CpInfo := pool [(5, u "<init>"), (0, u "()V"), (1, .class_ 10), (1, u "java/lang/Object")] 113

def k0m0 : Method := { name := "<init>", desc := "()V", sig := { parameters := [], returnType := none }, accessFlags := 1, code := none }
/-- java/lang/Object -/
def k0 : Class := { plain "java/lang/Object" none with
  accessFlags := 33
  interfaces := #[]
  cf := some (fileOf pool0 8 #[] #[{ accessFlags := 1, nameIndex := 5, descriptorIndex := 6, attributes := #[] }] 33 0 #[] #[])
  fields := #[]
  methods := #[k0m0]
  instanceTypes := #[]
  staticTypes := #[]
  resolved := Array.replicate 124 none
  statics := none }

def pool1 : Array CpInfo := pool [(2, .class_ 4), (1, u "java/lang/Object"), (0, u "<init>"), (0, u "()V"), (0, .class_ 8), (0, u "com/example/entente/entente/Option"), (0, .fieldref 7 10), (0, .nameAndType 11 12), (0, u "ALGORITHM"), (0, u "Lcom/example/entente/entente/Option;"), (0, .fieldref 7 14), (0, .nameAndType 15 12), (0, u "NOGOOD_LIMIT"), (0, .fieldref 7 17), (0, .nameAndType 18 12), (0, u "PROCESSES"), (0, .fieldref 7 20), (0, .nameAndType 21 12), (0, u "VALUE_ORDER"), (0, .fieldref 7 23), (0, .nameAndType 24 12), (0, u "MAX_CYCLES"), (0, .fieldref 7 26), (0, .nameAndType 27 12), (0, u "SEED"), (0, .fieldref 7 29), (0, .nameAndType 30 12), (0, u "INITIAL"), (0, .fieldref 7 32), (0, .nameAndType 33 12), (0, u "TRACE"), (0, .fieldref 7 35), (0, .nameAndType 36 12), (0, u "FILTER"), (0, .fieldref 7 38), (0, .nameAndType 39 12), (0, u "COLOURS"), (0, .fieldref 7 41), (0, .nameAndType 42 12), (0, u "TRANSPORT"), (0, .fieldref 7 44), (0, .nameAndType 45 12), (0, u "PORT_BASE"), (0, .fieldref 7 47), (0, .nameAndType 48 12), (0, u "DELAY_MS"), (0, .fieldref 7 50), (0, .nameAndType 51 12), (0, u "MAX_SECONDS"), (0, .fieldref 7 53), (0, .nameAndType 54 12), (0, u "NAME"), (0, .fieldref 7 56), (0, .nameAndType 57 12), (0, u "INDEX"), (0, .fieldref 7 59), (0, .nameAndType 60 12), (0, u "COORDINATOR"), (0, .fieldref 7 62), (0, .nameAndType 63 12), (0, u "N"), (0, .fieldref 7 65), (0, .nameAndType 66 12), (0, u "D"), (0, .fieldref 7 68), (0, .nameAndType 69 12), (0, u "P1"), (0, .fieldref 7 71), (0, .nameAndType 72 12), (0, u "P2"), (0, .fieldref 7 74), (0, .nameAndType 75 12), (0, u "NODES"), (0, .fieldref 7 77), (0, .nameAndType 78 12), (0, u "EDGES"), (0, .fieldref 7 80), (0, .nameAndType 81 12), (0, u "FAMILY"), (0, .fieldref 7 83), (0, .nameAndType 84 12), (0, u "INSTANCES"), (0, .fieldref 7 86), (0, .nameAndType 87 12), (0, u "GOAL"), (0, .fieldref 7 89), (0, .nameAndType 90 12), (0, u "HELP"), (0, .integer 2147483647), (0, .methodref 7 93), (0, .nameAndType 94 95), (0, u "takesValue"), (0, u "()Z"), (0, .methodref 7 97), (0, .nameAndType 98 99), (0, u "value"), (0, u "()Ljava/lang/String;"), (0, .class_ 101), (0, u "com/example/entente/entente/OptionTakesValuePinLaw"), (2, u "law"), (0, u "(I)Z")] 5

def k1m0 : Method := { name := "<init>", desc := "()V", sig := { parameters := [], returnType := none }, accessFlags := 2, code := none }
def k1c1 : Code := { maxStack := 4, maxLocals := 6, code := code, exceptionTable := #[], attributes := #[] }
def k1m1 : Method := { name := "law", desc := "(I)Z", sig := { parameters := [.int], returnType := some .boolean }, accessFlags := 9, code := some k1c1 }
/-- com/example/entente/entente/OptionTakesValuePinLaw -/
def k1 : Class := { plain "com/example/entente/entente/OptionTakesValuePinLaw" (some 0) with
  accessFlags := 49
  interfaces := #[]
  cf := some (fileOf pool1 100 #[] #[{ accessFlags := 2, nameIndex := 5, descriptorIndex := 6, attributes := #[] }, { accessFlags := 9, nameIndex := 104, descriptorIndex := 105, attributes := #[] }] 49 2 #[] #[])
  fields := #[]
  methods := #[k1m0, k1m1]
  instanceTypes := #[]
  staticTypes := #[]
  resolved := Array.replicate 111 none
  statics := none }

def pool2 : Array CpInfo := pool [(1, .class_ 2), (0, u "java/lang/constant/Constable"), (0, .class_ 4), (0, u "java/lang/Object")] 6

/-- java/lang/constant/Constable -/
def k2 : Class := { plain "java/lang/constant/Constable" (some 0) with
  accessFlags := 1537
  interfaces := #[]
  cf := some (fileOf pool2 1 #[] #[] 1537 3 #[] #[])
  fields := #[]
  methods := #[]
  instanceTypes := #[]
  staticTypes := #[]
  resolved := Array.replicate 11 none
  statics := none }

def pool3 : Array CpInfo := pool [(1, .class_ 2), (0, u "java/lang/Comparable"), (0, .class_ 4), (0, u "java/lang/Object")] 7

/-- java/lang/Comparable -/
def k3 : Class := { plain "java/lang/Comparable" (some 0) with
  accessFlags := 1537
  interfaces := #[]
  cf := some (fileOf pool3 1 #[] #[] 1537 3 #[] #[])
  fields := #[]
  methods := #[]
  instanceTypes := #[]
  staticTypes := #[]
  resolved := Array.replicate 12 none
  statics := none }

def pool4 : Array CpInfo := pool [(1, .class_ 2), (0, u "java/io/Serializable"), (0, .class_ 4), (0, u "java/lang/Object")] 2

/-- java/io/Serializable -/
def k4 : Class := { plain "java/io/Serializable" (some 0) with
  accessFlags := 1537
  interfaces := #[]
  cf := some (fileOf pool4 1 #[] #[] 1537 3 #[] #[])
  fields := #[]
  methods := #[]
  instanceTypes := #[]
  staticTypes := #[]
  resolved := Array.replicate 7 none
  statics := none }

def pool5 : Array CpInfo := pool [(2, .class_ 4), (1, u "java/lang/Enum"), (0, u "name"), (0, u "Ljava/lang/String;"), (2, u "ordinal"), (0, u "I"), (1, .class_ 14), (1, u "java/lang/Object"), (4, u "hash"), (86, .class_ 108), (1, u "java/lang/Enum$EnumDesc"), (2, .class_ 112), (0, u "java/lang/constant/Constable"), (0, .class_ 114), (0, u "java/lang/Comparable"), (0, .class_ 116), (0, u "java/io/Serializable")] 87

/-- java/lang/Enum -/
def k5 : Class := { plain "java/lang/Enum" (some 0) with
  accessFlags := 1057
  interfaces := #[2, 3, 4]
  cf := some (fileOf pool5 2 #[.nestMembers #[106]] #[] 1057 12 #[111, 113, 115] #[{ accessFlags := 18, nameIndex := 5, descriptorIndex := 6, attributes := #[] }, { accessFlags := 18, nameIndex := 9, descriptorIndex := 10, attributes := #[] }, { accessFlags := 2, nameIndex := 19, descriptorIndex := 10, attributes := #[] }])
  fields := #[{ name := "name", type := (.object "java/lang/String"), accessFlags := 18, slot := 0, constantValue := 0 }, { name := "ordinal", type := .int, accessFlags := 18, slot := 1, constantValue := 0 }, { name := "hash", type := .int, accessFlags := 2, slot := 2, constantValue := 0 }]
  methods := #[]
  instanceTypes := #[(.object "java/lang/String"), .int, .int]
  staticTypes := #[]
  resolved := Array.replicate 204 none
  statics := none }

def pool6 : Array CpInfo := pool [(1, .class_ 2), (0, u "com/example/entente/entente/OptionHelp"), (0, .class_ 4), (0, u "java/lang/Object")] 7

/-- com/example/entente/entente/OptionHelp -/
def k6 : Class := { plain "com/example/entente/entente/OptionHelp" (some 0) with
  accessFlags := 1536
  interfaces := #[]
  cf := some (fileOf pool6 1 #[] #[] 1536 3 #[] #[])
  fields := #[]
  methods := #[]
  instanceTypes := #[]
  staticTypes := #[]
  resolved := Array.replicate 12 none
  statics := none }

def pool7 : Array CpInfo := pool [(1, .class_ 2), (0, u "com/example/entente/entente/Option"), (2, u "ALGORITHM"), (0, u "Lcom/example/entente/entente/Option;"), (2, u "NOGOOD_LIMIT"), (2, u "PROCESSES"), (2, u "VALUE_ORDER"), (2, u "MAX_CYCLES"), (2, u "SEED"), (2, u "INITIAL"), (2, u "TRACE"), (2, u "FILTER"), (2, u "COLOURS"), (2, u "TRANSPORT"), (2, u "PORT_BASE"), (2, u "DELAY_MS"), (2, u "MAX_SECONDS"), (2, u "NAME"), (2, u "INDEX"), (2, u "COORDINATOR"), (2, u "N"), (2, u "D"), (2, u "P1"), (2, u "P2"), (2, u "NODES"), (2, u "EDGES"), (2, u "FAMILY"), (2, u "INSTANCES"), (2, u "GOAL"), (2, u "HELP"), (2, u "$VALUES"), (0, u "[Lcom/example/entente/entente/Option;"), (6, .class_ 97), (1, u "java/lang/Enum"), (10, u "word"), (0, u "()Ljava/lang/String;"), (22, u "Ljava/lang/String;"), (0, .fieldref 1 134), (0, .nameAndType 135 132), (0, u "value"), (2, u "description"), (2, u "setting"), (0, u "Lcom/example/entente/entente/agent/Algorithm$Setting;"), (35, .class_ 179), (0, u "com/example/entente/entente/Option$Variant"), (245, .class_ 426), (0, u "com/example/entente/entente/OptionHelp"), (9, u "takesValue"), (0, u "()Z")] 71

def k7c0 : Code := { maxStack := 1, maxLocals := 1, code := prog_11_method_7_code, exceptionTable := #[], attributes := #[] }
def k7m0 : Method := { name := "takesValue", desc := "()Z", sig := { parameters := [], returnType := some .boolean }, accessFlags := 0, code := some k7c0 }
def k7c1 : Code := { maxStack := 1, maxLocals := 1, code := prog_11_method_10_code, exceptionTable := #[], attributes := #[] }
def k7m1 : Method := { name := "value", desc := "()Ljava/lang/String;", sig := { parameters := [], returnType := some (.object "java/lang/String") }, accessFlags := 1, code := some k7c1 }
/-- com/example/entente/entente/Option -/
def k7 : Class := { plain "com/example/entente/entente/Option" (some 5) with
  accessFlags := 16432
  interfaces := #[6]
  cf := some (fileOf pool7 1 #[.nestMembers #[178]] #[{ accessFlags := 0, nameIndex := 436, descriptorIndex := 437, attributes := #[] }, { accessFlags := 1, nameIndex := 135, descriptorIndex := 109, attributes := #[] }] 16432 95 #[425] #[{ accessFlags := 16409, nameIndex := 5, descriptorIndex := 6, attributes := #[] }, { accessFlags := 16409, nameIndex := 9, descriptorIndex := 6, attributes := #[] }, { accessFlags := 16409, nameIndex := 12, descriptorIndex := 6, attributes := #[] }, { accessFlags := 16409, nameIndex := 15, descriptorIndex := 6, attributes := #[] }, { accessFlags := 16409, nameIndex := 18, descriptorIndex := 6, attributes := #[] }, { accessFlags := 16409, nameIndex := 21, descriptorIndex := 6, attributes := #[] }, { accessFlags := 16409, nameIndex := 24, descriptorIndex := 6, attributes := #[] }, { accessFlags := 16409, nameIndex := 27, descriptorIndex := 6, attributes := #[] }, { accessFlags := 16409, nameIndex := 30, descriptorIndex := 6, attributes := #[] }, { accessFlags := 16409, nameIndex := 33, descriptorIndex := 6, attributes := #[] }, { accessFlags := 16409, nameIndex := 36, descriptorIndex := 6, attributes := #[] }, { accessFlags := 16409, nameIndex := 39, descriptorIndex := 6, attributes := #[] }, { accessFlags := 16409, nameIndex := 42, descriptorIndex := 6, attributes := #[] }, { accessFlags := 16409, nameIndex := 45, descriptorIndex := 6, attributes := #[] }, { accessFlags := 16409, nameIndex := 48, descriptorIndex := 6, attributes := #[] }, { accessFlags := 16409, nameIndex := 51, descriptorIndex := 6, attributes := #[] }, { accessFlags := 16409, nameIndex := 54, descriptorIndex := 6, attributes := #[] }, { accessFlags := 16409, nameIndex := 57, descriptorIndex := 6, attributes := #[] }, { accessFlags := 16409, nameIndex := 60, descriptorIndex := 6, attributes := #[] }, { accessFlags := 16409, nameIndex := 63, descriptorIndex := 6, attributes := #[] }, { accessFlags := 16409, nameIndex := 66, descriptorIndex := 6, attributes := #[] }, { accessFlags := 16409, nameIndex := 69, descriptorIndex := 6, attributes := #[] }, { accessFlags := 16409, nameIndex := 72, descriptorIndex := 6, attributes := #[] }, { accessFlags := 16409, nameIndex := 75, descriptorIndex := 6, attributes := #[] }, { accessFlags := 16409, nameIndex := 78, descriptorIndex := 6, attributes := #[] }, { accessFlags := 16409, nameIndex := 81, descriptorIndex := 6, attributes := #[] }, { accessFlags := 16409, nameIndex := 84, descriptorIndex := 6, attributes := #[] }, { accessFlags := 18, nameIndex := 108, descriptorIndex := 132, attributes := #[] }, { accessFlags := 18, nameIndex := 135, descriptorIndex := 132, attributes := #[] }, { accessFlags := 18, nameIndex := 138, descriptorIndex := 132, attributes := #[] }, { accessFlags := 18, nameIndex := 141, descriptorIndex := 142, attributes := #[] }, { accessFlags := 4122, nameIndex := 87, descriptorIndex := 88, attributes := #[] }])
  fields := #[{ name := "ALGORITHM", type := (.object "com/example/entente/entente/Option"), accessFlags := 16409, slot := 0, constantValue := 0 }, { name := "NOGOOD_LIMIT", type := (.object "com/example/entente/entente/Option"), accessFlags := 16409, slot := 1, constantValue := 0 }, { name := "PROCESSES", type := (.object "com/example/entente/entente/Option"), accessFlags := 16409, slot := 2, constantValue := 0 }, { name := "VALUE_ORDER", type := (.object "com/example/entente/entente/Option"), accessFlags := 16409, slot := 3, constantValue := 0 }, { name := "MAX_CYCLES", type := (.object "com/example/entente/entente/Option"), accessFlags := 16409, slot := 4, constantValue := 0 }, { name := "SEED", type := (.object "com/example/entente/entente/Option"), accessFlags := 16409, slot := 5, constantValue := 0 }, { name := "INITIAL", type := (.object "com/example/entente/entente/Option"), accessFlags := 16409, slot := 6, constantValue := 0 }, { name := "TRACE", type := (.object "com/example/entente/entente/Option"), accessFlags := 16409, slot := 7, constantValue := 0 }, { name := "FILTER", type := (.object "com/example/entente/entente/Option"), accessFlags := 16409, slot := 8, constantValue := 0 }, { name := "COLOURS", type := (.object "com/example/entente/entente/Option"), accessFlags := 16409, slot := 9, constantValue := 0 }, { name := "TRANSPORT", type := (.object "com/example/entente/entente/Option"), accessFlags := 16409, slot := 10, constantValue := 0 }, { name := "PORT_BASE", type := (.object "com/example/entente/entente/Option"), accessFlags := 16409, slot := 11, constantValue := 0 }, { name := "DELAY_MS", type := (.object "com/example/entente/entente/Option"), accessFlags := 16409, slot := 12, constantValue := 0 }, { name := "MAX_SECONDS", type := (.object "com/example/entente/entente/Option"), accessFlags := 16409, slot := 13, constantValue := 0 }, { name := "NAME", type := (.object "com/example/entente/entente/Option"), accessFlags := 16409, slot := 14, constantValue := 0 }, { name := "INDEX", type := (.object "com/example/entente/entente/Option"), accessFlags := 16409, slot := 15, constantValue := 0 }, { name := "COORDINATOR", type := (.object "com/example/entente/entente/Option"), accessFlags := 16409, slot := 16, constantValue := 0 }, { name := "N", type := (.object "com/example/entente/entente/Option"), accessFlags := 16409, slot := 17, constantValue := 0 }, { name := "D", type := (.object "com/example/entente/entente/Option"), accessFlags := 16409, slot := 18, constantValue := 0 }, { name := "P1", type := (.object "com/example/entente/entente/Option"), accessFlags := 16409, slot := 19, constantValue := 0 }, { name := "P2", type := (.object "com/example/entente/entente/Option"), accessFlags := 16409, slot := 20, constantValue := 0 }, { name := "NODES", type := (.object "com/example/entente/entente/Option"), accessFlags := 16409, slot := 21, constantValue := 0 }, { name := "EDGES", type := (.object "com/example/entente/entente/Option"), accessFlags := 16409, slot := 22, constantValue := 0 }, { name := "FAMILY", type := (.object "com/example/entente/entente/Option"), accessFlags := 16409, slot := 23, constantValue := 0 }, { name := "INSTANCES", type := (.object "com/example/entente/entente/Option"), accessFlags := 16409, slot := 24, constantValue := 0 }, { name := "GOAL", type := (.object "com/example/entente/entente/Option"), accessFlags := 16409, slot := 25, constantValue := 0 }, { name := "HELP", type := (.object "com/example/entente/entente/Option"), accessFlags := 16409, slot := 26, constantValue := 0 }, { name := "word", type := (.object "java/lang/String"), accessFlags := 18, slot := 3, constantValue := 0 }, { name := "value", type := (.object "java/lang/String"), accessFlags := 18, slot := 4, constantValue := 0 }, { name := "description", type := (.object "java/lang/String"), accessFlags := 18, slot := 5, constantValue := 0 }, { name := "setting", type := (.object "com/example/entente/entente/agent/Algorithm$Setting"), accessFlags := 18, slot := 6, constantValue := 0 }, { name := "$VALUES", type := (.array (.object "com/example/entente/entente/Option")), accessFlags := 4122, slot := 27, constantValue := 0 }]
  methods := #[k7m0, k7m1]
  instanceTypes := #[(.object "java/lang/String"), .int, .int, (.object "java/lang/String"), (.object "java/lang/String"), (.object "java/lang/String"), (.object "com/example/entente/entente/agent/Algorithm$Setting")]
  staticTypes := #[(.object "com/example/entente/entente/Option"), (.object "com/example/entente/entente/Option"), (.object "com/example/entente/entente/Option"), (.object "com/example/entente/entente/Option"), (.object "com/example/entente/entente/Option"), (.object "com/example/entente/entente/Option"), (.object "com/example/entente/entente/Option"), (.object "com/example/entente/entente/Option"), (.object "com/example/entente/entente/Option"), (.object "com/example/entente/entente/Option"), (.object "com/example/entente/entente/Option"), (.object "com/example/entente/entente/Option"), (.object "com/example/entente/entente/Option"), (.object "com/example/entente/entente/Option"), (.object "com/example/entente/entente/Option"), (.object "com/example/entente/entente/Option"), (.object "com/example/entente/entente/Option"), (.object "com/example/entente/entente/Option"), (.object "com/example/entente/entente/Option"), (.object "com/example/entente/entente/Option"), (.object "com/example/entente/entente/Option"), (.object "com/example/entente/entente/Option"), (.object "com/example/entente/entente/Option"), (.object "com/example/entente/entente/Option"), (.object "com/example/entente/entente/Option"), (.object "com/example/entente/entente/Option"), (.object "com/example/entente/entente/Option"), (.array (.object "com/example/entente/entente/Option"))]
  resolved := Array.replicate 509 none
  statics := some 0 }

def pool8 : Array CpInfo := pool [(2, .class_ 4), (1, u "java/lang/CharSequence"), (42, .class_ 48), (0, u "java/lang/CharSequence$1CodePointIterator"), (10, .class_ 60), (0, u "java/lang/CharSequence$1CharIterator"), (5, .class_ 67), (0, u "java/lang/Object")] 63

/-- java/lang/CharSequence -/
def k8 : Class := { plain "java/lang/CharSequence" (some 0) with
  accessFlags := 1537
  interfaces := #[]
  cf := some (fileOf pool8 2 #[.nestMembers #[47, 59]] #[] 1537 66 #[] #[])
  fields := #[]
  methods := #[]
  instanceTypes := #[]
  staticTypes := #[]
  resolved := Array.replicate 131 none
  statics := none }

def pool9 : Array CpInfo := pool [(1, .class_ 2), (0, u "java/lang/constant/ConstantDesc"), (0, .class_ 4), (0, u "java/lang/Object")] 32

/-- java/lang/constant/ConstantDesc -/
def k9 : Class := { plain "java/lang/constant/ConstantDesc" (some 0) with
  accessFlags := 1537
  interfaces := #[]
  cf := some (fileOf pool9 1 #[] #[] 1537 3 #[] #[])
  fields := #[]
  methods := #[]
  instanceTypes := #[]
  staticTypes := #[]
  resolved := Array.replicate 37 none
  statics := none }

def pool10 : Array CpInfo := pool [(2, .class_ 4), (1, u "java/lang/Object"), (0, u "<init>"), (0, u "()V"), (3, .class_ 12), (1, u "java/lang/String"), (0, u "value"), (0, u "[B"), (2, u "coder"), (0, u "B"), (2, u "hash"), (0, u "I"), (2, u "hashIsZero"), (0, u "Z"), (13, u "COMPACT_STRINGS"), (534, .class_ 576), (0, u "java/lang/CharSequence"), (22, u "CASE_INSENSITIVE_ORDER"), (0, u "Ljava/util/Comparator;"), (500, u "serialPersistentFields"), (0, u "[Ljava/io/ObjectStreamField;"), (0, .class_ 1104), (0, u "java/lang/String$CaseInsensitiveComparator"), (1, .class_ 1107), (0, u "java/io/Serializable"), (0, .class_ 1109), (0, u "java/lang/Comparable"), (0, .class_ 1111), (0, u "java/lang/constant/Constable"), (0, .class_ 1113), (0, u "java/lang/constant/ConstantDesc"), (2, u "serialVersionUID"), (0, u "J"), (3, u "REPL"), (0, u "C"), (2, u "LATIN1"), (1, u "UTF16")] 323

def k10m0 : Method := { name := "<init>", desc := "()V", sig := { parameters := [], returnType := none }, accessFlags := 1, code := none }
/-- java/lang/String -/
def k10 : Class := { plain "java/lang/String" (some 0) with
  accessFlags := 49
  interfaces := #[4, 3, 8, 2, 9]
  cf := some (fileOf pool10 10 #[.nestMembers #[1103]] #[{ accessFlags := 1, nameIndex := 5, descriptorIndex := 6, attributes := #[] }] 49 2 #[1106, 1108, 575, 1110, 1112] #[{ accessFlags := 18, nameIndex := 13, descriptorIndex := 14, attributes := #[] }, { accessFlags := 18, nameIndex := 17, descriptorIndex := 18, attributes := #[] }, { accessFlags := 2, nameIndex := 21, descriptorIndex := 22, attributes := #[] }, { accessFlags := 2, nameIndex := 25, descriptorIndex := 26, attributes := #[] }, { accessFlags := 26, nameIndex := 1116, descriptorIndex := 1117, attributes := #[] }, { accessFlags := 24, nameIndex := 40, descriptorIndex := 26, attributes := #[] }, { accessFlags := 26, nameIndex := 1101, descriptorIndex := 1102, attributes := #[] }, { accessFlags := 26, nameIndex := 1121, descriptorIndex := 1122, attributes := #[] }, { accessFlags := 25, nameIndex := 599, descriptorIndex := 600, attributes := #[] }, { accessFlags := 24, nameIndex := 1125, descriptorIndex := 18, attributes := #[] }, { accessFlags := 24, nameIndex := 1127, descriptorIndex := 18, attributes := #[] }])
  fields := #[{ name := "value", type := (.array .byte), accessFlags := 18, slot := 0, constantValue := 0 }, { name := "coder", type := .byte, accessFlags := 18, slot := 1, constantValue := 0 }, { name := "hash", type := .int, accessFlags := 2, slot := 2, constantValue := 0 }, { name := "hashIsZero", type := .boolean, accessFlags := 2, slot := 3, constantValue := 0 }, { name := "serialVersionUID", type := .long, accessFlags := 26, slot := 0, constantValue := 0 }, { name := "COMPACT_STRINGS", type := .boolean, accessFlags := 24, slot := 1, constantValue := 0 }, { name := "serialPersistentFields", type := (.array (.object "java/io/ObjectStreamField")), accessFlags := 26, slot := 2, constantValue := 0 }, { name := "REPL", type := .char, accessFlags := 26, slot := 3, constantValue := 0 }, { name := "CASE_INSENSITIVE_ORDER", type := (.object "java/util/Comparator"), accessFlags := 25, slot := 4, constantValue := 0 }, { name := "LATIN1", type := .byte, accessFlags := 24, slot := 5, constantValue := 0 }, { name := "UTF16", type := .byte, accessFlags := 24, slot := 6, constantValue := 0 }]
  methods := #[k10m0]
  instanceTypes := #[(.array .byte), .byte, .int, .boolean]
  staticTypes := #[.long, .boolean, (.array (.object "java/io/ObjectStreamField")), .char, (.object "java/util/Comparator"), .byte, .byte]
  resolved := Array.replicate 1451 none
  statics := none }

def pool11 : Array CpInfo := pool [(1, u "java/lang/Cloneable"), (0, .class_ 1), (0, u "java/lang/Object"), (0, .class_ 3)] 3

/-- java/lang/Cloneable -/
def k11 : Class := { plain "java/lang/Cloneable" (some 0) with
  accessFlags := 1537
  interfaces := #[]
  cf := some (fileOf pool11 2 #[] #[] 1537 4 #[] #[])
  fields := #[]
  methods := #[]
  instanceTypes := #[]
  staticTypes := #[]
  resolved := Array.replicate 8 none
  statics := none }

/-- the primitive byte -/
def k12 : Class := { plain "byte" none with kind := .primitive 'B', accessFlags := 0x411 }
/-- [B -/
def k13 : Class := { plain "[B" (some 0) with kind := .array 12 .byte, interfaces := #[11, 4], accessFlags := 1041 }

/-- the primitive int -/
def k14 : Class := { plain "int" none with kind := .primitive 'I', accessFlags := 0x411 }
/-- [I -/
def k15 : Class := { plain "[I" (some 0) with kind := .array 14 .int, interfaces := #[11, 4], accessFlags := 1041 }

/-- [Lcom/example/entente/entente/Option; -/
def k16 : Class := { plain "[Lcom/example/entente/entente/Option;" (some 0) with kind := .array 7 (.object "com/example/entente/entente/Option"), interfaces := #[11, 4], accessFlags := 1041 }

def heap : Heap := #[{ cls := 7, slots := #[.ref 2, .ref 3, .ref 4, .ref 5, .ref 6, .ref 7, .ref 8, .ref 9, .ref 10, .ref 11, .ref 12, .ref 13, .ref 14, .ref 15, .ref 16, .ref 17, .ref 18, .ref 19, .ref 20, .ref 21, .ref 22, .ref 23, .ref 24, .ref 25, .ref 26, .ref 27, .ref 28, .null], vm := .statics 7 },
  { cls := 10, slots := #[.null, .int 0, .int 0, .int 0], vm := .none },
  { cls := 7, slots := #[.null, .int 0, .int 0, .null, .ref 1, .null, .null], vm := .none },
  { cls := 7, slots := #[.null, .int 1, .int 0, .null, .ref 1, .null, .null], vm := .none },
  { cls := 7, slots := #[.null, .int 2, .int 0, .null, .ref 1, .null, .null], vm := .none },
  { cls := 7, slots := #[.null, .int 3, .int 0, .null, .ref 1, .null, .null], vm := .none },
  { cls := 7, slots := #[.null, .int 4, .int 0, .null, .ref 1, .null, .null], vm := .none },
  { cls := 7, slots := #[.null, .int 5, .int 0, .null, .ref 1, .null, .null], vm := .none },
  { cls := 7, slots := #[.null, .int 6, .int 0, .null, .ref 1, .null, .null], vm := .none },
  { cls := 7, slots := #[.null, .int 7, .int 0, .null, .null, .null, .null], vm := .none },
  { cls := 7, slots := #[.null, .int 8, .int 0, .null, .null, .null, .null], vm := .none },
  { cls := 7, slots := #[.null, .int 9, .int 0, .null, .ref 1, .null, .null], vm := .none },
  { cls := 7, slots := #[.null, .int 10, .int 0, .null, .ref 1, .null, .null], vm := .none },
  { cls := 7, slots := #[.null, .int 11, .int 0, .null, .ref 1, .null, .null], vm := .none },
  { cls := 7, slots := #[.null, .int 12, .int 0, .null, .ref 1, .null, .null], vm := .none },
  { cls := 7, slots := #[.null, .int 13, .int 0, .null, .ref 1, .null, .null], vm := .none },
  { cls := 7, slots := #[.null, .int 14, .int 0, .null, .ref 1, .null, .null], vm := .none },
  { cls := 7, slots := #[.null, .int 15, .int 0, .null, .ref 1, .null, .null], vm := .none },
  { cls := 7, slots := #[.null, .int 16, .int 0, .null, .ref 1, .null, .null], vm := .none },
  { cls := 7, slots := #[.null, .int 17, .int 0, .null, .ref 1, .null, .null], vm := .none },
  { cls := 7, slots := #[.null, .int 18, .int 0, .null, .ref 1, .null, .null], vm := .none },
  { cls := 7, slots := #[.null, .int 19, .int 0, .null, .ref 1, .null, .null], vm := .none },
  { cls := 7, slots := #[.null, .int 20, .int 0, .null, .ref 1, .null, .null], vm := .none },
  { cls := 7, slots := #[.null, .int 21, .int 0, .null, .ref 1, .null, .null], vm := .none },
  { cls := 7, slots := #[.null, .int 22, .int 0, .null, .ref 1, .null, .null], vm := .none },
  { cls := 7, slots := #[.null, .int 23, .int 0, .null, .ref 1, .null, .null], vm := .none },
  { cls := 7, slots := #[.null, .int 24, .int 0, .null, .ref 1, .null, .null], vm := .none },
  { cls := 7, slots := #[.null, .int 25, .int 0, .null, .ref 1, .null, .null], vm := .none },
  { cls := 7, slots := #[.null, .int 26, .int 0, .null, .null, .null, .null], vm := .none }]
def classes : Array Class := #[k0, k1, k2, k3, k4, k5, k6, k7, k8, k9, k10, k11, k12, k13, k14, k15, k16]
def interned : List (Array UInt16 × Addr) := []
def slotsUsed : Nat := 221
def theMethod : MethodId := ⟨1, 1⟩
def args0 : Array Value := #[.int 5]
def aboutOver (below : List Frame) : State where
  vm := { classes := classes, interned := interned.toArray }
  heap := heap
  slotsUsed := slotsUsed
  threads := #[{ frames := .invoking theMethod args0 :: below }]
def below0 : List Frame := [.native { method := ⟨0, 0⟩, args := #[] }]
def about1 : State := aboutOver below0
def p0 : Program := .bare "" "" ""
def e0 : Env := launch0.env 0 0 0
theorem w_frames : about1.frames = Frame.invoking theMethod args0 :: below0 := rfl
set_option maxRecDepth 65536 in
theorem w_args : argsFit about1.vm theMethod args0 = true := by decide +kernel
set_option maxRecDepth 65536 in
theorem w_heap : heapFits about1 = true := by decide +kernel
set_option maxRecDepth 65536 in
theorem w_runnable : about1.curStatus? = some .runnable := by decide +kernel
set_option maxRecDepth 65536 in
theorem w_alone : about1.alone = true := by decide +kernel
set_option maxRecDepth 65536 in
theorem w_named : about1.methodNamed? x = some theMethod := by decide +kernel
set_option maxRecDepth 65536 in
theorem w_hears : about1.hears theMethod below0 = true := by decide +kernel
set_option maxRecDepth 65536 in
theorem w_ripe : about1.ripe theMethod args0 below0 = true := by decide +kernel
theorem w_running : about1.status = .running := rfl
set_option maxRecDepth 65536 in
theorem w_room : about1.hasRoom e0.platform room_1 = true :=
  launch0.hasRoom_least _ room_1 (by decide +kernel) (by decide +kernel) (by decide +kernel) (by decide +kernel) (by decide +kernel) (by decide +kernel)
theorem allAtoms_all (ts : List Jvm.Cond) (a : Array Jvm.Value) (st : Jvm.State) : (allAtoms ts).before a st = ts.all (fun c => c.before a st) := by
  induction ts with
  | nil => rfl
  | cons c t ih =>
    show (Jvm.Cond.and c (allAtoms t)).before a st = _
    rw [Jvm.Cond.before_and, ih, List.all_cons]
def words1 : List Jvm.Cond := Jvm.Cond.code x code maxLocals ret :: tables_1
/-- a 'code' word, met by the world's own term for the bytes: nothing is compared byte by byte -/
theorem code_word {y : MethodName} {bytes : ByteArray} {mx : Nat} {rt : Option FieldType} {a : Array Value} {s : State} {m : MethodId} {meth : Method} {c : Code} (h1 : s.methodNamed? y = some m) (h2 : s.vm.method? m = some meth) (h3 : meth.code = some c) (h4 : c.code = bytes)
    (h5 : (c.maxLocals == mx && c.exceptionTable.isEmpty && decide (c.maxStack ≤ mostOperands) && decide (meth.sig.returnType = rt) && !meth.locks && decide (parseMethodDescriptor y.desc = some meth.sig)) = true) : (Jvm.Cond.code y bytes mx rt).before a s = true := by
  simp only [Bool.and_eq_true, beq_iff_eq, Bool.not_eq_true', decide_eq_true_eq] at h5
  obtain ⟨⟨⟨⟨⟨g1, g2⟩, g3⟩, g4⟩, g5⟩, g6⟩ := h5
  simp [Cond.before, Cond.holds, Cond.value, h1, h2, h3, h4, g1, g2, g3, g4, g5, g6]
def isCode : Jvm.Cond → Bool
  | .code _ _ _ _ => true
  | _ => false
theorem all_split {L : List Jvm.Cond} {P : Jvm.Cond → Bool} (h1 : L.all (fun c => isCode c || P c) = true) (h2 : ∀ c ∈ L.filter isCode, P c = true) : L.all P = true := by
  refine List.all_eq_true.mpr fun c hc => ?_
  have h := List.all_eq_true.mp h1 c hc
  rcases Bool.eq_false_or_eq_true (isCode c) with hi | hi
  · exact h2 c (List.mem_filter.mpr ⟨hc, hi⟩)
  · simpa [hi] using h
set_option maxRecDepth 65536 in
theorem w_c0 : (Jvm.Cond.code x code maxLocals ret).before args0 about1 = true := code_word (m := ⟨1, 1⟩) (meth := k1m1) (c := k1c1) (by decide +kernel) rfl rfl rfl (by decide +kernel)
set_option maxRecDepth 65536 in
theorem w_c1 : (Jvm.Cond.code ({ cls := "com/example/entente/entente/Option", name := "takesValue", desc := "()Z" } : Jvm.MethodName) prog_11_method_7_code (1 : Nat) (Option.some Jvm.ClassFile.FieldType.boolean)).before args0 about1 = true := code_word (m := ⟨7, 0⟩) (meth := k7m0) (c := k7c0) (by decide +kernel) rfl rfl rfl (by decide +kernel)
set_option maxRecDepth 65536 in
theorem w_c2 : (Jvm.Cond.code ({ cls := "com/example/entente/entente/Option", name := "value", desc := "()Ljava/lang/String;" } : Jvm.MethodName) prog_11_method_10_code (1 : Nat) (Option.some (Jvm.ClassFile.FieldType.object "java/lang/String"))).before args0 about1 = true := code_word (m := ⟨7, 1⟩) (meth := k7m1) (c := k7c1) (by decide +kernel) rfl rfl rfl (by decide +kernel)
def codes1 : List Jvm.Cond := [Jvm.Cond.code x code maxLocals ret, Jvm.Cond.code ({ cls := "com/example/entente/entente/Option", name := "takesValue", desc := "()Z" } : Jvm.MethodName) prog_11_method_7_code (1 : Nat) (Option.some Jvm.ClassFile.FieldType.boolean), Jvm.Cond.code ({ cls := "com/example/entente/entente/Option", name := "value", desc := "()Ljava/lang/String;" } : Jvm.MethodName) prog_11_method_10_code (1 : Nat) (Option.some (Jvm.ClassFile.FieldType.object "java/lang/String"))]
set_option maxRecDepth 65536 in
theorem codes_eq : words1.filter isCode = codes1 := rfl
theorem w_codes : ∀ c ∈ words1.filter isCode, c.before args0 about1 = true := by
  rw [codes_eq]
  intro c hc
  simp only [codes1, List.mem_cons, List.not_mem_nil, or_false] at hc
  rcases hc with rfl | rfl | rfl
  · exact w_c0
  · exact w_c1
  · exact w_c2
set_option maxRecDepth 65536 in
theorem w_t1 : (words1.take 24).all (fun c => isCode c || c.before args0 about1) = true := by decide +kernel
set_option maxRecDepth 65536 in
theorem w_t2 : ((words1.drop 24).take 24).all (fun c => isCode c || c.before args0 about1) = true := by decide +kernel
set_option maxRecDepth 65536 in
theorem w_t3 : ((words1.drop 24).drop 24).all (fun c => isCode c || c.before args0 about1) = true := by decide +kernel
theorem w_tables : (allAtoms (Jvm.Cond.code x code maxLocals ret :: tables_1)).before args0 about1 = true := by
  rw [allAtoms_all]
  show words1.all (fun c => c.before args0 about1) = true
  refine all_split ?_ w_codes
  rw [← List.take_append_drop 24 words1, List.all_append, w_t1, ← List.take_append_drop 24 (words1.drop 24), List.all_append, w_t2, w_t3]
  rfl
set_option maxRecDepth 65536 in
theorem w_case : (Jvm.Cond.and given_1 narrow_1).before args0 about1 = true := by decide +kernel
theorem w_applies : (headSpec (Jvm.Cond.code x code maxLocals ret :: tables_1) room_1).applies x e0.platform about1 = true :=
  (Spec.applies_iff w_frames).mpr ⟨w_running, w_runnable, w_alone, w_named, w_hears, w_ripe, w_room, w_tables⟩
theorem atStart : AtStart classFile x code maxLocals ret World_1 tables_1 room_1 Calls_1 rest_1 Pre_1 launch0 p0 e0 about1 theMethod args0 below0 :=
  ⟨lists_1, trivial, launch0.admits_env _ _ _, launch0.least_env, fairChoices_fair.cas, fairChoices_fair.clock, w_frames, w_args, w_heap, w_applies, trivial, trivial, w_case⟩
end start1
theorem witness_1 : WitnessClaimed_1 := ⟨start1.p0, start1.e0, start1.about1, start1.theMethod, start1.args0, start1.below0, start1.atStart⟩
end Jvm.Pilot.@@N@@
