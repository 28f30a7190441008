import JvmDerived
import JvmDerived.Pilot.@@N@@Statement
import JvmDerived.Pilot.@@N@@Code
set_option linter.unusedVariables false
set_option linter.unusedSimpArgs false
namespace Jvm.RoadKit
open Sem ClassFile Op Lib Jvm.Stand Jvm.Free Jvm.LawKit
section New
variable {p : Program} {l : Launch} {e : Env} {R : Room} {s : State} {m : MethodId} {args : Array Value} {below : List Frame} {meth : Method} {c : Code} {T : State} {locs : List Loc} {cells slots : Nat}
theorem retI (X : Stand p l e R s m args below meth c T locs cells slots) (hx : p.tables.exec = Jvm.exec) {pc : Nat} {Ls : Array Slot} {z : Int32} {rest : List Value} (hret : meth.sig.returnType = some .int) (hd : decode c.code pc = .ok (.ireturn, 1)) {fs : List Frame}
    (hl : ∀ (f : JFrame) (acts : List Action), f.method = m → f.locked = none → f.entered = [] → (doReturn e (T.setTop f) acts (some (.int z))).1 = T.setFrames fs) : Steps p.tables e below (T.setTop (mkF m pc Ls (.int z :: rest))) (T.setFrames fs) := by
  have hm' : T.vm.method? m = some meth := X.method'
  have hn : narrow .int (.int z) = .int z := rfl
  show Steps p.tables e below (T.setTop { method := m, pc := pc, locals := Ls, stack := _ :: rest, locked := none }) _
  jvm_step X.here [X.here.top, hx, hd, hm', hret, hn]
  first | (intro acts; rw [hl _ acts rfl rfl rfl]) | rw [hl _ _ rfl rfl rfl]
  exact Steps.refl _
end New
end Jvm.RoadKit
namespace Jvm.Pilot.@@N@@
open Jvm Jvm.ClassFile Sem Op Lib Jvm.Free Jvm.Stand Jvm.LawKit Jvm.RoadKit Bundle Jvm.Pilot.@@N@@.Jvm.D
def own_sel (a b c d : Nat) : Nat → Nat
  | 0 => a
  | 1 => b
  | 2 => c
  | _ => d
def own_u (i x v l : Nat) : Nat := if x = i then v else l
def own_inv (l0 l1 l2 l3 : Nat) : Prop := (∀ j, j < 4 → own_sel l0 l1 l2 l3 j < 4) ∧ ∀ j, j < 4 → own_sel l0 l1 l2 l3 (own_sel l0 l1 l2 l3 (own_sel l0 l1 l2 l3 (own_sel l0 l1 l2 l3 j))) = own_sel l0 l1 l2 l3 (own_sel l0 l1 l2 l3 (own_sel l0 l1 l2 l3 j))
theorem own_n32 {n : Nat} (hn : n < 100) : (Int32.ofNat n).toNatClampNeg = n := by
  show (Int32.ofNat n).toInt.toNat = n
  rw [Int32.toInt_ofNat_of_lt (by omega)]
  omega
theorem own_nn {n : Nat} (hn : n < 100) : ¬ Int32.ofNat n < 0 := by
  rw [Int32.lt_iff_toInt_lt, Int32.toInt_ofNat_of_lt (by omega)]
  have : (0 : Int32).toInt = 0 := by decide
  omega
theorem own_inj {a b : Nat} (ha : a < 100) (hb : b < 100) (h : Int32.ofNat a = Int32.ofNat b) : a = b := by
  have q := congrArg Int32.toInt h
  rw [Int32.toInt_ofNat_of_lt (by omega), Int32.toInt_ofNat_of_lt (by omega)] at q
  omega
theorem own_m3 (x : Int32) : ∃ n : Nat, n < 4 ∧ x &&& (3 : Int32) = Int32.ofNat n := by
  have h1 : (x &&& (3 : Int32)).toInt = x.toInt % (2 ^ 2 : Nat) := c_mask x 3 2 (by decide) (by decide)
  refine ⟨(x &&& (3 : Int32)).toInt.toNat, by omega, Int32.toInt_inj.mp ?_⟩
  rw [Int32.toInt_ofNat_of_lt (by omega)]
  omega
theorem own_at4 (l0 l1 l2 l3 : Nat) {x : Nat} (hx : x < 4) : ([(.int (Int32.ofNat l0)), (.int (Int32.ofNat l1)), (.int (Int32.ofNat l2)), (.int (Int32.ofNat l3))] : List Value).getD x (.int (0 : Int32)) = .int (Int32.ofNat (own_sel l0 l1 l2 l3 x)) := by
  match x, hx with
  | 0, _ => rfl
  | 1, _ => rfl
  | 2, _ => rfl
  | 3, _ => rfl
theorem own_at8 (l0 l1 l2 l3 : Nat) {x : Nat} (hx : x < 4) : ([(.int (Int32.ofNat l0)), (.int (Int32.ofNat l1)), (.int (Int32.ofNat l2)), (.int (Int32.ofNat l3)), (.int (0 : Int32)), (.int (0 : Int32)), (.int (0 : Int32)), (.int (0 : Int32))] : List Value).getD x (.int (0 : Int32)) = .int (Int32.ofNat (own_sel l0 l1 l2 l3 x)) := by
  match x, hx with
  | 0, _ => rfl
  | 1, _ => rfl
  | 2, _ => rfl
  | 3, _ => rfl
theorem own_set8 (l0 l1 l2 l3 v : Nat) {x : Nat} (hx : x < 4) : ([(.int (Int32.ofNat l0)), (.int (Int32.ofNat l1)), (.int (Int32.ofNat l2)), (.int (Int32.ofNat l3)), (.int (0 : Int32)), (.int (0 : Int32)), (.int (0 : Int32)), (.int (0 : Int32))] : List Value).set x (.int (Int32.ofNat v)) = [(.int (Int32.ofNat (own_u 0 x v l0))), (.int (Int32.ofNat (own_u 1 x v l1))), (.int (Int32.ofNat (own_u 2 x v l2))), (.int (Int32.ofNat (own_u 3 x v l3))), (.int (0 : Int32)), (.int (0 : Int32)), (.int (0 : Int32)), (.int (0 : Int32))] := by
  match x, hx with
  | 0, _ => rfl
  | 1, _ => rfl
  | 2, _ => rfl
  | 3, _ => rfl
theorem own_sel_lt {a b c d : Nat} (h0 : a < 4) (h1 : b < 4) (h2 : c < 4) (h3 : d < 4) : ∀ j, j < 4 → own_sel a b c d j < 4 := fun j hj => by
  match j, hj with
  | 0, _ => exact h0
  | 1, _ => exact h1
  | 2, _ => exact h2
  | 3, _ => exact h3
/-! the finite law: path halving over four places -/
def own_all (P : Nat → Bool) : Bool := P 0 && P 1 && P 2 && P 3
theorem own_all_iff {P : Nat → Bool} (h : own_all P = true) : ∀ j, j < 4 → P j = true := fun j hj => by
  simp only [own_all, Bool.and_eq_true] at h
  match j, hj with
  | 0, _ => exact h.1.1.1
  | 1, _ => exact h.1.1.2
  | 2, _ => exact h.1.2
  | 3, _ => exact h.2
def own_c3 (f : Nat → Nat) (j : Nat) : Nat := f (f (f j))
def own_invb (f : Nat → Nat) : Bool := own_all fun j => f (own_c3 f j) == own_c3 f j
def own_up (l0 l1 l2 l3 x v : Nat) : Nat → Nat := own_sel (own_u 0 x v l0) (own_u 1 x v l1) (own_u 2 x v l2) (own_u 3 x v l3)
set_option maxRecDepth 65536 in
theorem own_fin1 : ∀ a b c d x : Fin 4, own_invb (own_sel a.1 b.1 c.1 d.1) = true → (own_invb (own_up a.1 b.1 c.1 d.1 x.1 (own_sel a.1 b.1 c.1 d.1 (own_sel a.1 b.1 c.1 d.1 x.1))) && own_all fun j => own_c3 (own_up a.1 b.1 c.1 d.1 x.1 (own_sel a.1 b.1 c.1 d.1 (own_sel a.1 b.1 c.1 d.1 x.1))) j == own_c3 (own_sel a.1 b.1 c.1 d.1) j) = true := by decide +kernel
set_option maxRecDepth 65536 in
theorem own_fin2 : ∀ a b c d x : Fin 4, own_invb (own_sel a.1 b.1 c.1 d.1) = true → own_up a.1 b.1 c.1 d.1 x.1 (own_sel a.1 b.1 c.1 d.1 (own_sel a.1 b.1 c.1 d.1 x.1)) (own_up a.1 b.1 c.1 d.1 x.1 (own_sel a.1 b.1 c.1 d.1 (own_sel a.1 b.1 c.1 d.1 x.1)) (own_sel a.1 b.1 c.1 d.1 (own_sel a.1 b.1 c.1 d.1 x.1))) = own_c3 (own_sel a.1 b.1 c.1 d.1) x.1 := by decide +kernel
theorem own_inv_b {l0 l1 l2 l3 : Nat} (h : own_inv l0 l1 l2 l3) : own_invb (own_sel l0 l1 l2 l3) = true := by
  simp only [own_invb, own_all, own_c3, Bool.and_eq_true, beq_iff_eq]
  exact ⟨⟨⟨h.2 0 (by omega), h.2 1 (by omega)⟩, h.2 2 (by omega)⟩, h.2 3 (by omega)⟩
/-- one turn: x's link set to its link's link: the invariant stays, and every place's outermost one -/
theorem own_step {l0 l1 l2 l3 x : Nat} (h : own_inv l0 l1 l2 l3) (hx : x < 4) : own_inv (own_u 0 x (own_sel l0 l1 l2 l3 (own_sel l0 l1 l2 l3 x)) l0) (own_u 1 x (own_sel l0 l1 l2 l3 (own_sel l0 l1 l2 l3 x)) l1) (own_u 2 x (own_sel l0 l1 l2 l3 (own_sel l0 l1 l2 l3 x)) l2) (own_u 3 x (own_sel l0 l1 l2 l3 (own_sel l0 l1 l2 l3 x)) l3) ∧ ∀ y, y < 4 → own_c3 (own_up l0 l1 l2 l3 x (own_sel l0 l1 l2 l3 (own_sel l0 l1 l2 l3 x))) y = own_c3 (own_sel l0 l1 l2 l3) y := by
  have b0 : l0 < 4 := h.1 0 (by omega)
  have b1 : l1 < 4 := h.1 1 (by omega)
  have b2 : l2 < 4 := h.1 2 (by omega)
  have b3 : l3 < 4 := h.1 3 (by omega)
  have q := own_fin1 ⟨l0, b0⟩ ⟨l1, b1⟩ ⟨l2, b2⟩ ⟨l3, b3⟩ ⟨x, hx⟩ (own_inv_b h)
  simp only [Bool.and_eq_true] at q
  have hv : own_sel l0 l1 l2 l3 (own_sel l0 l1 l2 l3 x) < 4 := h.1 _ (h.1 _ hx)
  have hu : ∀ i l, l < 4 → own_u i x (own_sel l0 l1 l2 l3 (own_sel l0 l1 l2 l3 x)) l < 4 := fun i l hl => by
    unfold own_u
    split
    · exact hv
    · exact hl
  refine ⟨⟨own_sel_lt (hu 0 _ b0) (hu 1 _ b1) (hu 2 _ b2) (hu 3 _ b3), fun j hj => ?_⟩, fun y hy => ?_⟩
  · exact beq_iff_eq.mp (own_all_iff q.1 j hj)
  · exact beq_iff_eq.mp (own_all_iff q.2 y hy)
/-- behind two turns one stands at the outermost place -/
theorem own_two {l0 l1 l2 l3 x : Nat} (h : own_inv l0 l1 l2 l3) (hx : x < 4) : own_up l0 l1 l2 l3 x (own_sel l0 l1 l2 l3 (own_sel l0 l1 l2 l3 x)) (own_up l0 l1 l2 l3 x (own_sel l0 l1 l2 l3 (own_sel l0 l1 l2 l3 x)) (own_sel l0 l1 l2 l3 (own_sel l0 l1 l2 l3 x))) = own_c3 (own_sel l0 l1 l2 l3) x :=
  own_fin2 ⟨l0, h.1 0 (by omega)⟩ ⟨l1, h.1 1 (by omega)⟩ ⟨l2, h.1 2 (by omega)⟩ ⟨l3, h.1 3 (by omega)⟩ ⟨x, hx⟩ (own_inv_b h)
def own_isr (g0 g1 g2 g3 x : Nat) : Int32 := if (Int32.ofNat (own_sel g0 g1 g2 g3 (own_sel g0 g1 g2 g3 (own_sel g0 g1 g2 g3 (own_sel g0 g1 g2 g3 x))))) = (Int32.ofNat (own_sel g0 g1 g2 g3 (own_sel g0 g1 g2 g3 (own_sel g0 g1 g2 g3 x)))) then (1 : Int32) else (0 : Int32)
theorem own_isr_inv {g0 g1 g2 g3 : Nat} (hG : ∀ j, j < 4 → own_sel g0 g1 g2 g3 j < 4) (h0 : ¬ own_isr g0 g1 g2 g3 0 = (0 : Int32)) (h1 : ¬ own_isr g0 g1 g2 g3 1 = (0 : Int32)) (h2 : ¬ own_isr g0 g1 g2 g3 2 = (0 : Int32)) (h3 : ¬ own_isr g0 g1 g2 g3 3 = (0 : Int32)) : own_inv g0 g1 g2 g3 := by
  have key : ∀ j, j < 4 → ¬ own_isr g0 g1 g2 g3 j = (0 : Int32) → own_sel g0 g1 g2 g3 (own_sel g0 g1 g2 g3 (own_sel g0 g1 g2 g3 (own_sel g0 g1 g2 g3 j))) = own_sel g0 g1 g2 g3 (own_sel g0 g1 g2 g3 (own_sel g0 g1 g2 g3 j)) := fun j hj q => by
    by_cases e : (Int32.ofNat (own_sel g0 g1 g2 g3 (own_sel g0 g1 g2 g3 (own_sel g0 g1 g2 g3 (own_sel g0 g1 g2 g3 j))))) = (Int32.ofNat (own_sel g0 g1 g2 g3 (own_sel g0 g1 g2 g3 (own_sel g0 g1 g2 g3 j))))
    · have b1 := hG _ (hG _ (hG _ hj))
      have b2 := hG _ b1
      exact own_inj (by omega) (by omega) e
    · exact absurd (by rw [own_isr, if_neg e]) q
  refine ⟨hG, fun j hj => ?_⟩
  match j, hj with
  | 0, _ => exact key 0 (by omega) h0
  | 1, _ => exact key 1 (by omega) h1
  | 2, _ => exact key 2 (by omega) h2
  | 3, _ => exact key 3 (by omega) h3
theorem d2_0 : decode method_2_code 0 = .ok (.aload_n 0, 1) := by decide +kernel
theorem d2_1 : decode method_2_code 1 = .ok (.aload_n 0, 1) := by decide +kernel
theorem d2_2 : decode method_2_code 2 = .ok (.aload_n 0, 1) := by decide +kernel
theorem d2_3 : decode method_2_code 3 = .ok (.iload_n 1, 1) := by decide +kernel
theorem d2_4 : decode method_2_code 4 = .ok (.iaload, 1) := by decide +kernel
theorem d2_5 : decode method_2_code 5 = .ok (.iaload, 1) := by decide +kernel
theorem d2_6 : decode method_2_code 6 = .ok (.iaload, 1) := by decide +kernel
theorem d2_7 : decode method_2_code 7 = .ok (.ireturn, 1) := by decide +kernel
theorem pn_com_example_etape_etape_chart_EnclosureForestOutermostPinLaw : plainName "com/example/etape/etape/chart/EnclosureForestOutermostPinLaw" = true := by first | (simp [plainName, overriddenIn]; done) | decide +kernel
theorem ef_rm2 (m : MethodId) (x0 : Addr) (x1 : Int32) : entryFrame m #[(.ref x0), (.int x1)] 2 = mkF m 0 #[.val (.ref x0), .val (.int x1)] [] := by first | (simp [entryFrame, mkF, argsToLocals, Value.category]; done) | rfl
def Qrm2 (Z : State) (a1 : Addr) (x g0 g1 g2 g3 : Nat) (kP : ClassId) (h0 : Heap) (n0 : Nat) (v : Option Value) (h : Heap) (L : List Loc) : Prop := v = some (.int (Int32.ofNat (own_sel g0 g1 g2 g3 (own_sel g0 g1 g2 g3 (own_sel g0 g1 g2 g3 x))))) ∧ Fr n0 L ∧ h = h0
set_option maxRecDepth 65536 in
set_option maxHeartbeats 40000000 in
theorem rm2 (l : Launch) (Z : State) (a0 : Array Value) (hw : ∀ d ∈ tables_1, d.before a0 Z = true) (ws : List Jvm.Cond) (a1 : Addr) (x g0 g1 g2 g3 : Nat) (kP : ClassId) (h0 : Heap) (n0 : Nat) (Z0 : n0 ≤ h0.size) (hx4 : x < 4) (hG : ∀ j, j < 4 → own_sel g0 g1 g2 g3 j < 4) (V_p : Arv Z h0 a1 kP .int (4 : Int32) [(.int (Int32.ofNat g0)), (.int (Int32.ofNat g1)), (.int (Int32.ofNat g2)), (.int (Int32.ofNat g3))] (.int (0 : Int32))) :
    MetFree l (⟨"com/example/etape/etape/chart/EnclosureForestOutermostPinLaw", "root", "([II)I"⟩ : MethodName) (head1 (Jvm.Cond.code (⟨"com/example/etape/etape/chart/EnclosureForestOutermostPinLaw", "root", "([II)I"⟩ : MethodName) method_2_code 2 (some .int) :: ws) ({ frames := 0, cells := 0, slots := 0, locals := 0 } : Room)) (fun a U => a = #[(.ref a1), (.int (Int32.ofNat x))] ∧ Z.Warmed39 U.vm ∧ U.heap = h0) (fun _ _ _ _ _ => True) (fun _ U o U' => ∃ v L, o = .returned v ∧ Qrm2 Z a1 x g0 g1 g2 g3 kP h0 n0 v U'.heap L ∧ FrameEnd U o U' L ({ frames := 0, cells := 0, slots := 0, locals := 0 } : Room).cells ({ frames := 0, cells := 0, slots := 0, locals := 0 } : Room).slots) := by
  refine MetFree.of_bodySF (plainFor_of_name pn_com_example_etape_etape_chart_EnclosureForestOutermostPinLaw) hisR ?_
  intro p e s m args below meth c s₁ Bd hml0 hP hK
  obtain ⟨rfl, hZ, hh⟩ := hP
  have hx := Bd.exec
  have hby := Bd.bytes
  have hml : c.maxLocals = 2 := hml0
  have hown : s.vm.findClass "com/example/etape/etape/chart/EnclosureForestOutermostPinLaw" = some m.cls := findClass_of_methodNamed Bd.named
  have hnm := (name_of_methodNamed Bd.named Bd.method).1
  have X0 : Stand p l e ({ frames := 0, cells := 0, slots := 0, locals := 0 } : Room) s m #[(.ref a1), (.int (Int32.ofNat x))] below meth c s₁ [] 0 0 := Stand.of_body Bd
  have e0 : s₁.heap = h0 := by rw [← hh, Bd.state]; rfl
  have N0 := Fr.nil n0
  have pre0 : ∀ t, Steps p.tables e below (s₁.setTop (mkF m 0 #[.val (.ref a1), .val (.int (Int32.ofNat x))] [])) t → Steps p.tables e below (s₁.setTop (entryFrame m #[(.ref a1), (.int (Int32.ofNat x))] 2)) t := fun t k => castTop (ef_rm2 m a1 (Int32.ofNat x)) k
  obtain ⟨cl, Ar, -, S_, M_, Hs, -⟩ := V_p
  have S4 : cl.slots.size = 4 := S_.trans (by decide)
  have hin : ∀ j, j < 4 → ¬ (Int32.ofNat j < 0 ∨ cl.slots.size ≤ (Int32.ofNat j).toNatClampNeg) := fun j hj => by
    rw [S4, own_n32 (by omega)]
    exact fun q => q.elim (own_nn (by omega)) (fun q => by omega)
  have hat : ∀ j, j < 4 → cl.slots[(Int32.ofNat j).toNatClampNeg]? = some (.int (Int32.ofNat (own_sel g0 g1 g2 g3 j))) := fun j hj => by
    rw [own_n32 (by omega)]
    have q := Hs j (by omega)
    rw [own_at4 g0 g1 g2 g3 hj] at q
    exact q
  obtain ⟨fs, hr, hrun, hended, hW, hsame⟩ := X0.leave (v := some (.int (Int32.ofNat (own_sel g0 g1 g2 g3 (own_sel g0 g1 g2 g3 (own_sel g0 g1 g2 g3 x)))))) (fun h => by rw [Bd.returns] at h; cases h)
  refine ⟨_, _, pre0 _ ?_, hrun, hended, _, _, rfl, ?_, ⟨_, rfl⟩, hW, hsame.mono (by decide) (by decide)⟩
  · show Steps p.tables e below (s₁.setTop (mkF m 0 #[.val (.ref a1), .val (.int (Int32.ofNat x))] [])) _
    refine XS.aloadN X0.here hx rfl (hb hby d2_0) rfl rfl ?_
    show Steps p.tables e below (s₁.setTop (mkF m 1 #[.val (.ref a1), .val (.int (Int32.ofNat x))] [(.ref a1)])) _
    refine XS.aloadN X0.here hx rfl (hb hby d2_1) rfl rfl ?_
    show Steps p.tables e below (s₁.setTop (mkF m 2 #[.val (.ref a1), .val (.int (Int32.ofNat x))] [(.ref a1), (.ref a1)])) _
    refine XS.aloadN X0.here hx rfl (hb hby d2_2) rfl rfl ?_
    show Steps p.tables e below (s₁.setTop (mkF m 3 #[.val (.ref a1), .val (.int (Int32.ofNat x))] [(.ref a1), (.ref a1), (.ref a1)])) _
    refine XS.iloadN X0.here hx rfl (hb hby d2_3) rfl ?_
    show Steps p.tables e below (s₁.setTop (mkF m 4 #[.val (.ref a1), .val (.int (Int32.ofNat x))] [(.int (Int32.ofNat x)), (.ref a1), (.ref a1), (.ref a1)])) _
    refine X0.iaload hx (j := (Int32.ofNat x)) (v := (.int (Int32.ofNat (own_sel g0 g1 g2 g3 x)))) (by rw [e0]; exact Ar.1) (State.isArrayOf_alike hZ.alike Ar.2.1) Ar.2.2 (hin _ hx4) (hat _ hx4) (g := (mkF m 4 #[.val (.ref a1), .val (.int (Int32.ofNat x))] [(.int (Int32.ofNat x)), (.ref a1), (.ref a1), (.ref a1)])) rfl rfl (hb hby d2_4) _ ?_
    show Steps p.tables e below (s₁.setTop (mkF m 5 #[.val (.ref a1), .val (.int (Int32.ofNat x))] [(.int (Int32.ofNat (own_sel g0 g1 g2 g3 x))), (.ref a1), (.ref a1)])) _
    refine X0.iaload hx (j := (Int32.ofNat (own_sel g0 g1 g2 g3 x))) (v := (.int (Int32.ofNat (own_sel g0 g1 g2 g3 (own_sel g0 g1 g2 g3 x))))) (by rw [e0]; exact Ar.1) (State.isArrayOf_alike hZ.alike Ar.2.1) Ar.2.2 (hin _ (hG _ hx4)) (hat _ (hG _ hx4)) (g := (mkF m 5 #[.val (.ref a1), .val (.int (Int32.ofNat x))] [(.int (Int32.ofNat (own_sel g0 g1 g2 g3 x))), (.ref a1), (.ref a1)])) rfl rfl (hb hby d2_5) _ ?_
    show Steps p.tables e below (s₁.setTop (mkF m 6 #[.val (.ref a1), .val (.int (Int32.ofNat x))] [(.int (Int32.ofNat (own_sel g0 g1 g2 g3 (own_sel g0 g1 g2 g3 x)))), (.ref a1)])) _
    refine X0.iaload hx (j := (Int32.ofNat (own_sel g0 g1 g2 g3 (own_sel g0 g1 g2 g3 x)))) (v := (.int (Int32.ofNat (own_sel g0 g1 g2 g3 (own_sel g0 g1 g2 g3 (own_sel g0 g1 g2 g3 x)))))) (by rw [e0]; exact Ar.1) (State.isArrayOf_alike hZ.alike Ar.2.1) Ar.2.2 (hin _ (hG _ (hG _ hx4))) (hat _ (hG _ (hG _ hx4))) (g := (mkF m 6 #[.val (.ref a1), .val (.int (Int32.ofNat x))] [(.int (Int32.ofNat (own_sel g0 g1 g2 g3 (own_sel g0 g1 g2 g3 x)))), (.ref a1)])) rfl rfl (hb hby d2_6) _ ?_
    show Steps p.tables e below (s₁.setTop (mkF m 7 #[.val (.ref a1), .val (.int (Int32.ofNat x))] [(.int (Int32.ofNat (own_sel g0 g1 g2 g3 (own_sel g0 g1 g2 g3 (own_sel g0 g1 g2 g3 x)))))])) _
    exact retI X0 hx Bd.returns (hb hby d2_7) hr
  · show Qrm2 Z a1 x g0 g1 g2 g3 kP h0 n0 _ s₁.heap _
    rw [e0]
    exact ⟨rfl, N0, rfl⟩
theorem d1_0 : decode method_3_code 0 = .ok (.aload_n 0, 1) := by decide +kernel
theorem d1_1 : decode method_3_code 1 = .ok (.iload_n 1, 1) := by decide +kernel
theorem d1_2 : decode method_3_code 2 = .ok (.invokestatic 7, 3) := by decide +kernel
theorem pd_0 : parseMethodDescriptor "([II)I" = some ⟨[(.array .int), .int], some .int⟩ := by decide +kernel
theorem d1_5 : decode method_3_code 5 = .ok (.istore_n 2, 1) := by decide +kernel
theorem d1_6 : decode method_3_code 6 = .ok (.aload_n 0, 1) := by decide +kernel
theorem d1_7 : decode method_3_code 7 = .ok (.iload_n 2, 1) := by decide +kernel
theorem d1_8 : decode method_3_code 8 = .ok (.iaload, 1) := by decide +kernel
theorem d1_9 : decode method_3_code 9 = .ok (.iload_n 2, 1) := by decide +kernel
theorem d1_10 : decode method_3_code 10 = .ok (.if_icmp .ne 7, 3) := by decide +kernel
theorem d1_13 : decode method_3_code 13 = .ok (.iconst 1, 1) := by decide +kernel
theorem d1_14 : decode method_3_code 14 = .ok (.goto 4, 3) := by decide +kernel
theorem d1_18 : decode method_3_code 18 = .ok (.ireturn, 1) := by decide +kernel
theorem d1_17 : decode method_3_code 17 = .ok (.iconst 0, 1) := by decide +kernel
theorem ef_rm1 (m : MethodId) (x0 : Addr) (x1 : Int32) : entryFrame m #[(.ref x0), (.int x1)] 3 = mkF m 0 #[.val (.ref x0), .val (.int x1), .unset] [] := by first | (simp [entryFrame, mkF, argsToLocals, Value.category]; done) | rfl
def Qrm1 (Z : State) (a1 : Addr) (x g0 g1 g2 g3 : Nat) (kP : ClassId) (h0 : Heap) (n0 : Nat) (v : Option Value) (h : Heap) (L : List Loc) : Prop := v = some (.int (own_isr g0 g1 g2 g3 x)) ∧ Fr n0 L ∧ h = h0
set_option maxRecDepth 65536 in
set_option maxHeartbeats 40000000 in
theorem rm1 (l : Launch) (Z : State) (a0 : Array Value) (hw : ∀ d ∈ tables_1, d.before a0 Z = true) (ws : List Jvm.Cond) (a1 : Addr) (x g0 g1 g2 g3 : Nat) (kP : ClassId) (h0 : Heap) (n0 : Nat) (Z0 : n0 ≤ h0.size) (hx4 : x < 4) (hG : ∀ j, j < 4 → own_sel g0 g1 g2 g3 j < 4) (V_p : Arv Z h0 a1 kP .int (4 : Int32) [(.int (Int32.ofNat g0)), (.int (Int32.ofNat g1)), (.int (Int32.ofNat g2)), (.int (Int32.ofNat g3))] (.int (0 : Int32))) :
    MetFree l (⟨"com/example/etape/etape/chart/EnclosureForestOutermostPinLaw", "isRootOf", "([II)Z"⟩ : MethodName) (head1 (Jvm.Cond.code (⟨"com/example/etape/etape/chart/EnclosureForestOutermostPinLaw", "isRootOf", "([II)Z"⟩ : MethodName) method_3_code 3 (some .boolean) :: ws) ({ frames := 1, cells := 0, slots := 0, locals := 13 } : Room)) (fun a U => a = #[(.ref a1), (.int (Int32.ofNat x))] ∧ Z.Warmed39 U.vm ∧ U.heap = h0) (fun _ _ _ _ _ => True) (fun _ U o U' => ∃ v L, o = .returned v ∧ Qrm1 Z a1 x g0 g1 g2 g3 kP h0 n0 v U'.heap L ∧ FrameEnd U o U' L ({ frames := 1, cells := 0, slots := 0, locals := 13 } : Room).cells ({ frames := 1, cells := 0, slots := 0, locals := 13 } : Room).slots) := by
  refine MetFree.of_bodySF (plainFor_of_name pn_com_example_etape_etape_chart_EnclosureForestOutermostPinLaw) hisR ?_
  intro p e s m args below meth c s₁ Bd hml0 hP hK
  obtain ⟨rfl, hZ, hh⟩ := hP
  have hx := Bd.exec
  have hby := Bd.bytes
  have hml : c.maxLocals = 3 := hml0
  have hown : s.vm.findClass "com/example/etape/etape/chart/EnclosureForestOutermostPinLaw" = some m.cls := findClass_of_methodNamed Bd.named
  have hnm := (name_of_methodNamed Bd.named Bd.method).1
  have X0 : Stand p l e ({ frames := 1, cells := 0, slots := 0, locals := 13 } : Room) s m #[(.ref a1), (.int (Int32.ofNat x))] below meth c s₁ [] 0 0 := Stand.of_body Bd
  have e0 : s₁.heap = h0 := by rw [← hh, Bd.state]; rfl
  have N0 := Fr.nil n0
  have pre0 : ∀ t, Steps p.tables e below (s₁.setTop (mkF m 0 #[.val (.ref a1), .val (.int (Int32.ofNat x)), .unset] [])) t → Steps p.tables e below (s₁.setTop (entryFrame m #[(.ref a1), (.int (Int32.ofNat x))] 3)) t := fun t k => castTop (ef_rm1 m a1 (Int32.ofNat x)) k
  have V_q := V_p
  obtain ⟨cl, Ar, -, S_, M_, Hs, -⟩ := V_p
  have S4 : cl.slots.size = 4 := S_.trans (by decide)
  have hin : ∀ j, j < 4 → ¬ (Int32.ofNat j < 0 ∨ cl.slots.size ≤ (Int32.ofNat j).toNatClampNeg) := fun j hj => by
    rw [S4, own_n32 (by omega)]
    exact fun q => q.elim (own_nn (by omega)) (fun q => by omega)
  have hat : ∀ j, j < 4 → cl.slots[(Int32.ofNat j).toNatClampNeg]? = some (.int (Int32.ofNat (own_sel g0 g1 g2 g3 j))) := fun j hj => by
    rw [own_n32 (by omega)]
    have q := Hs j (by omega)
    rw [own_at4 g0 g1 g2 g3 hj] at q
    exact q
  obtain ⟨_, _, ⟨T1, L1, k1, n1⟩, -, X1, ⟨Lc1, hQ1, l1, y1, z1⟩, st1⟩ := Jvm.LawKit.callS X0 hx (y := (⟨"com/example/etape/etape/chart/EnclosureForestOutermostPinLaw", "root", "([II)I"⟩ : MethodName)) hown (mvT hZ (hw _ (List.mem_of_getElem? (i := 5) rfl))) (mvT hZ (hw _ (List.mem_of_getElem? (i := 6) rfl))) (mvT hZ (hw _ (List.mem_of_getElem? (i := 3) rfl))) (mvT hZ (hw _ (List.mem_of_getElem? (i := 7) rfl))) (by decide) (backOf (W := 0) (rm2 l Z a0 hw [] a1 x g0 g1 g2 g3 kP h0 n0 Z0 hx4 hG V_q) hZ (hw _ (List.mem_of_getElem? (i := 7) rfl)) (hw _ (List.mem_of_getElem? (i := 3) rfl)) (by decide) (by decide)) (g := (mkF m 2 #[.val (.ref a1), .val (.int (Int32.ofNat x)), .unset] [(.int (Int32.ofNat x)), (.ref a1)])) rfl (by rw [hml]; rfl) (argsL := [(.ref a1), (.int (Int32.ofNat x))]) (rest := []) (lenOf pd_0 rfl) rfl (by show 2 * 0 + _ ≤ _; exact Nat.le_of_eq rfl) (hb hby d1_2) (fun _ _ => ⟨rfl, e0, (by decide : 0 + 0 ≤ _), (by decide : 0 + 0 ≤ _)⟩)
  dsimp only [Pt.U, Pt.locs, Pt.cells, Pt.slots] at X1 l1 y1 z1 st1 hQ1
  subst l1 y1 z1
  obtain ⟨rfl, N1q, e1⟩ := hQ1
  have N1 := Fr.app N0 N1q
  by_cases ht0 : (Int32.ofNat (own_sel g0 g1 g2 g3 (own_sel g0 g1 g2 g3 (own_sel g0 g1 g2 g3 (own_sel g0 g1 g2 g3 x))))) = (Int32.ofNat (own_sel g0 g1 g2 g3 (own_sel g0 g1 g2 g3 (own_sel g0 g1 g2 g3 x))))
  · obtain ⟨fs, hr, hrun, hended, hW, hsame⟩ := X1.leave (v := some (.int (1 : Int32))) (fun h => by rw [Bd.returns] at h; cases h)
    refine ⟨_, _, pre0 _ ?_, hrun, hended, _, _, rfl, ?_, ⟨_, rfl⟩, hW, hsame.mono (by decide) (by decide)⟩
    · show Steps p.tables e below (s₁.setTop (mkF m 0 #[.val (.ref a1), .val (.int (Int32.ofNat x)), .unset] [])) _
      refine XS.aloadN X0.here hx rfl (hb hby d1_0) rfl rfl ?_
      show Steps p.tables e below (s₁.setTop (mkF m 1 #[.val (.ref a1), .val (.int (Int32.ofNat x)), .unset] [(.ref a1)])) _
      refine XS.iloadN X0.here hx rfl (hb hby d1_1) rfl ?_
      show Steps p.tables e below (s₁.setTop (mkF m 2 #[.val (.ref a1), .val (.int (Int32.ofNat x)), .unset] [(.int (Int32.ofNat x)), (.ref a1)])) _
      refine st1 _ ?_
      show Steps p.tables e below (T1.setTop (mkF m 5 #[.val (.ref a1), .val (.int (Int32.ofNat x)), .unset] [(.int (Int32.ofNat (own_sel g0 g1 g2 g3 (own_sel g0 g1 g2 g3 (own_sel g0 g1 g2 g3 x)))))])) _
      refine XS.istoreN X1.here hx rfl (hb hby d1_5) rfl (l' := #[.val (.ref a1), .val (.int (Int32.ofNat x)), .val (.int (Int32.ofNat (own_sel g0 g1 g2 g3 (own_sel g0 g1 g2 g3 (own_sel g0 g1 g2 g3 x)))))]) rfl ?_
      show Steps p.tables e below (T1.setTop (mkF m 6 #[.val (.ref a1), .val (.int (Int32.ofNat x)), .val (.int (Int32.ofNat (own_sel g0 g1 g2 g3 (own_sel g0 g1 g2 g3 (own_sel g0 g1 g2 g3 x)))))] [])) _
      refine XS.aloadN X1.here hx rfl (hb hby d1_6) rfl rfl ?_
      show Steps p.tables e below (T1.setTop (mkF m 7 #[.val (.ref a1), .val (.int (Int32.ofNat x)), .val (.int (Int32.ofNat (own_sel g0 g1 g2 g3 (own_sel g0 g1 g2 g3 (own_sel g0 g1 g2 g3 x)))))] [(.ref a1)])) _
      refine XS.iloadN X1.here hx rfl (hb hby d1_7) rfl ?_
      show Steps p.tables e below (T1.setTop (mkF m 8 #[.val (.ref a1), .val (.int (Int32.ofNat x)), .val (.int (Int32.ofNat (own_sel g0 g1 g2 g3 (own_sel g0 g1 g2 g3 (own_sel g0 g1 g2 g3 x)))))] [(.int (Int32.ofNat (own_sel g0 g1 g2 g3 (own_sel g0 g1 g2 g3 (own_sel g0 g1 g2 g3 x))))), (.ref a1)])) _
      refine X1.iaload hx (j := (Int32.ofNat (own_sel g0 g1 g2 g3 (own_sel g0 g1 g2 g3 (own_sel g0 g1 g2 g3 x))))) (v := (.int (Int32.ofNat (own_sel g0 g1 g2 g3 (own_sel g0 g1 g2 g3 (own_sel g0 g1 g2 g3 (own_sel g0 g1 g2 g3 x))))))) (by rw [e1]; exact Ar.1) (State.isArrayOf_alike hZ.alike Ar.2.1) Ar.2.2 (hin _ (hG _ (hG _ (hG _ hx4)))) (hat _ (hG _ (hG _ (hG _ hx4)))) (g := (mkF m 8 #[.val (.ref a1), .val (.int (Int32.ofNat x)), .val (.int (Int32.ofNat (own_sel g0 g1 g2 g3 (own_sel g0 g1 g2 g3 (own_sel g0 g1 g2 g3 x)))))] [(.int (Int32.ofNat (own_sel g0 g1 g2 g3 (own_sel g0 g1 g2 g3 (own_sel g0 g1 g2 g3 x))))), (.ref a1)])) rfl rfl (hb hby d1_8) _ ?_
      show Steps p.tables e below (T1.setTop (mkF m 9 #[.val (.ref a1), .val (.int (Int32.ofNat x)), .val (.int (Int32.ofNat (own_sel g0 g1 g2 g3 (own_sel g0 g1 g2 g3 (own_sel g0 g1 g2 g3 x)))))] [(.int (Int32.ofNat (own_sel g0 g1 g2 g3 (own_sel g0 g1 g2 g3 (own_sel g0 g1 g2 g3 (own_sel g0 g1 g2 g3 x))))))])) _
      refine XS.iloadN X1.here hx rfl (hb hby d1_9) rfl ?_
      show Steps p.tables e below (T1.setTop (mkF m 10 #[.val (.ref a1), .val (.int (Int32.ofNat x)), .val (.int (Int32.ofNat (own_sel g0 g1 g2 g3 (own_sel g0 g1 g2 g3 (own_sel g0 g1 g2 g3 x)))))] [(.int (Int32.ofNat (own_sel g0 g1 g2 g3 (own_sel g0 g1 g2 g3 (own_sel g0 g1 g2 g3 x))))), (.int (Int32.ofNat (own_sel g0 g1 g2 g3 (own_sel g0 g1 g2 g3 (own_sel g0 g1 g2 g3 (own_sel g0 g1 g2 g3 x))))))])) _
      refine XS.icmpNo X1.here hx rfl (hb hby d1_10) rfl (teq (ht0 : (Int32.ofNat (own_sel g0 g1 g2 g3 (own_sel g0 g1 g2 g3 (own_sel g0 g1 g2 g3 (own_sel g0 g1 g2 g3 x))))) = (Int32.ofNat (own_sel g0 g1 g2 g3 (own_sel g0 g1 g2 g3 (own_sel g0 g1 g2 g3 x)))))).2 ?_
      show Steps p.tables e below (T1.setTop (mkF m 13 #[.val (.ref a1), .val (.int (Int32.ofNat x)), .val (.int (Int32.ofNat (own_sel g0 g1 g2 g3 (own_sel g0 g1 g2 g3 (own_sel g0 g1 g2 g3 x)))))] [])) _
      refine XS.iconst X1.here hx rfl (hb hby d1_13) ?_
      show Steps p.tables e below (T1.setTop (mkF m 14 #[.val (.ref a1), .val (.int (Int32.ofNat x)), .val (.int (Int32.ofNat (own_sel g0 g1 g2 g3 (own_sel g0 g1 g2 g3 (own_sel g0 g1 g2 g3 x)))))] [(.int (1 : Int32))])) _
      refine XS.goto X1.here hx rfl (pc0 := 14) (pc' := 18) rfl (hb hby d1_14) (by decide) (by decide) ?_
      show Steps p.tables e below (T1.setTop (mkF m 18 #[.val (.ref a1), .val (.int (Int32.ofNat x)), .val (.int (Int32.ofNat (own_sel g0 g1 g2 g3 (own_sel g0 g1 g2 g3 (own_sel g0 g1 g2 g3 x)))))] [(.int (1 : Int32))])) _
      exact retN X1 hx (t := .boolean) Bd.returns (by simp) (hb hby d1_18) hr
    · show Qrm1 Z a1 x g0 g1 g2 g3 kP h0 n0 _ T1.heap _
      rw [e1]
      exact ⟨by rw [own_isr, if_pos ht0], N1, rfl⟩
  · obtain ⟨fs, hr, hrun, hended, hW, hsame⟩ := X1.leave (v := some (.int (0 : Int32))) (fun h => by rw [Bd.returns] at h; cases h)
    refine ⟨_, _, pre0 _ ?_, hrun, hended, _, _, rfl, ?_, ⟨_, rfl⟩, hW, hsame.mono (by decide) (by decide)⟩
    · show Steps p.tables e below (s₁.setTop (mkF m 0 #[.val (.ref a1), .val (.int (Int32.ofNat x)), .unset] [])) _
      refine XS.aloadN X0.here hx rfl (hb hby d1_0) rfl rfl ?_
      show Steps p.tables e below (s₁.setTop (mkF m 1 #[.val (.ref a1), .val (.int (Int32.ofNat x)), .unset] [(.ref a1)])) _
      refine XS.iloadN X0.here hx rfl (hb hby d1_1) rfl ?_
      show Steps p.tables e below (s₁.setTop (mkF m 2 #[.val (.ref a1), .val (.int (Int32.ofNat x)), .unset] [(.int (Int32.ofNat x)), (.ref a1)])) _
      refine st1 _ ?_
      show Steps p.tables e below (T1.setTop (mkF m 5 #[.val (.ref a1), .val (.int (Int32.ofNat x)), .unset] [(.int (Int32.ofNat (own_sel g0 g1 g2 g3 (own_sel g0 g1 g2 g3 (own_sel g0 g1 g2 g3 x)))))])) _
      refine XS.istoreN X1.here hx rfl (hb hby d1_5) rfl (l' := #[.val (.ref a1), .val (.int (Int32.ofNat x)), .val (.int (Int32.ofNat (own_sel g0 g1 g2 g3 (own_sel g0 g1 g2 g3 (own_sel g0 g1 g2 g3 x)))))]) rfl ?_
      show Steps p.tables e below (T1.setTop (mkF m 6 #[.val (.ref a1), .val (.int (Int32.ofNat x)), .val (.int (Int32.ofNat (own_sel g0 g1 g2 g3 (own_sel g0 g1 g2 g3 (own_sel g0 g1 g2 g3 x)))))] [])) _
      refine XS.aloadN X1.here hx rfl (hb hby d1_6) rfl rfl ?_
      show Steps p.tables e below (T1.setTop (mkF m 7 #[.val (.ref a1), .val (.int (Int32.ofNat x)), .val (.int (Int32.ofNat (own_sel g0 g1 g2 g3 (own_sel g0 g1 g2 g3 (own_sel g0 g1 g2 g3 x)))))] [(.ref a1)])) _
      refine XS.iloadN X1.here hx rfl (hb hby d1_7) rfl ?_
      show Steps p.tables e below (T1.setTop (mkF m 8 #[.val (.ref a1), .val (.int (Int32.ofNat x)), .val (.int (Int32.ofNat (own_sel g0 g1 g2 g3 (own_sel g0 g1 g2 g3 (own_sel g0 g1 g2 g3 x)))))] [(.int (Int32.ofNat (own_sel g0 g1 g2 g3 (own_sel g0 g1 g2 g3 (own_sel g0 g1 g2 g3 x))))), (.ref a1)])) _
      refine X1.iaload hx (j := (Int32.ofNat (own_sel g0 g1 g2 g3 (own_sel g0 g1 g2 g3 (own_sel g0 g1 g2 g3 x))))) (v := (.int (Int32.ofNat (own_sel g0 g1 g2 g3 (own_sel g0 g1 g2 g3 (own_sel g0 g1 g2 g3 (own_sel g0 g1 g2 g3 x))))))) (by rw [e1]; exact Ar.1) (State.isArrayOf_alike hZ.alike Ar.2.1) Ar.2.2 (hin _ (hG _ (hG _ (hG _ hx4)))) (hat _ (hG _ (hG _ (hG _ hx4)))) (g := (mkF m 8 #[.val (.ref a1), .val (.int (Int32.ofNat x)), .val (.int (Int32.ofNat (own_sel g0 g1 g2 g3 (own_sel g0 g1 g2 g3 (own_sel g0 g1 g2 g3 x)))))] [(.int (Int32.ofNat (own_sel g0 g1 g2 g3 (own_sel g0 g1 g2 g3 (own_sel g0 g1 g2 g3 x))))), (.ref a1)])) rfl rfl (hb hby d1_8) _ ?_
      show Steps p.tables e below (T1.setTop (mkF m 9 #[.val (.ref a1), .val (.int (Int32.ofNat x)), .val (.int (Int32.ofNat (own_sel g0 g1 g2 g3 (own_sel g0 g1 g2 g3 (own_sel g0 g1 g2 g3 x)))))] [(.int (Int32.ofNat (own_sel g0 g1 g2 g3 (own_sel g0 g1 g2 g3 (own_sel g0 g1 g2 g3 (own_sel g0 g1 g2 g3 x))))))])) _
      refine XS.iloadN X1.here hx rfl (hb hby d1_9) rfl ?_
      show Steps p.tables e below (T1.setTop (mkF m 10 #[.val (.ref a1), .val (.int (Int32.ofNat x)), .val (.int (Int32.ofNat (own_sel g0 g1 g2 g3 (own_sel g0 g1 g2 g3 (own_sel g0 g1 g2 g3 x)))))] [(.int (Int32.ofNat (own_sel g0 g1 g2 g3 (own_sel g0 g1 g2 g3 (own_sel g0 g1 g2 g3 x))))), (.int (Int32.ofNat (own_sel g0 g1 g2 g3 (own_sel g0 g1 g2 g3 (own_sel g0 g1 g2 g3 (own_sel g0 g1 g2 g3 x))))))])) _
      refine XS.icmpYes X1.here hx rfl (pc0 := 10) (pc' := 17) rfl (hb hby d1_10) rfl (feq (ht0 : ¬ ((Int32.ofNat (own_sel g0 g1 g2 g3 (own_sel g0 g1 g2 g3 (own_sel g0 g1 g2 g3 (own_sel g0 g1 g2 g3 x))))) = (Int32.ofNat (own_sel g0 g1 g2 g3 (own_sel g0 g1 g2 g3 (own_sel g0 g1 g2 g3 x))))))).2 (by decide) (by decide) ?_
      show Steps p.tables e below (T1.setTop (mkF m 17 #[.val (.ref a1), .val (.int (Int32.ofNat x)), .val (.int (Int32.ofNat (own_sel g0 g1 g2 g3 (own_sel g0 g1 g2 g3 (own_sel g0 g1 g2 g3 x)))))] [])) _
      refine XS.iconst X1.here hx rfl (hb hby d1_17) ?_
      show Steps p.tables e below (T1.setTop (mkF m 18 #[.val (.ref a1), .val (.int (Int32.ofNat x)), .val (.int (Int32.ofNat (own_sel g0 g1 g2 g3 (own_sel g0 g1 g2 g3 (own_sel g0 g1 g2 g3 x)))))] [(.int (0 : Int32))])) _
      exact retN X1 hx (t := .boolean) Bd.returns (by simp) (hb hby d1_18) hr
    · show Qrm1 Z a1 x g0 g1 g2 g3 kP h0 n0 _ T1.heap _
      rw [e1]
      exact ⟨by rw [own_isr, if_neg ht0], N1, rfl⟩
theorem d3_0 : decode prog_24_method_1_code 0 = .ok (.aload_n 0, 1) := by decide +kernel
theorem d3_1 : decode prog_24_method_1_code 1 = .ok (.invokespecial 1, 3) := by decide +kernel
theorem d3_4 : decode prog_24_method_1_code 4 = .ok (.aload_n 0, 1) := by decide +kernel
theorem d3_5 : decode prog_24_method_1_code 5 = .ok (.bipush 8, 2) := by decide +kernel
theorem d3_7 : decode prog_24_method_1_code 7 = .ok (.newarray .int, 2) := by decide +kernel
theorem d3_9 : decode prog_24_method_1_code 9 = .ok (.putfield 7, 3) := by decide +kernel
theorem d3_12 : decode prog_24_method_1_code 12 = .ok (.return_, 1) := by decide +kernel
theorem pn_com_example_etape_etape_chart_EnclosureForest : plainName "com/example/etape/etape/chart/EnclosureForest" = true := by first | (simp [plainName, overriddenIn]; done) | decide +kernel
theorem ef_rm3 (m : MethodId) (x0 : Addr) : entryFrame m #[(.ref x0)] 1 = mkF m 0 #[.val (.ref x0)] [] := by first | (simp [entryFrame, mkF, argsToLocals, Value.category]; done) | rfl
def Qrm3 (Z : State) (a1 : Addr)  (h0 : Heap) (n0 : Nat) (v : Option Value) (h : Heap) (L : List Loc) : Prop := ∃ (b : Addr) (kA : ClassId), v = none ∧ Fr n0 L ∧ Keep h0 h [a1] ∧ n0 ≤ b ∧ h0.size ≤ b ∧ a1 ≠ b ∧ Exa Z h a1 "com/example/etape/etape/chart/EnclosureForest" ∧ Fld Z h a1 "com/example/etape/etape/chart/EnclosureForest" "size" "I" (.int (0 : Int32)) ∧ Fld Z h a1 "com/example/etape/etape/chart/EnclosureForest" "link" "[I" (.ref b) ∧ Arv Z h b kA .int (8 : Int32) [(.int (0 : Int32)), (.int (0 : Int32)), (.int (0 : Int32)), (.int (0 : Int32)), (.int (0 : Int32)), (.int (0 : Int32)), (.int (0 : Int32)), (.int (0 : Int32))] (.int (0 : Int32))
set_option maxRecDepth 65536 in
set_option maxHeartbeats 40000000 in
theorem rm3 (l : Launch) (Z : State) (a0 : Array Value) (hw : ∀ d ∈ tables_1, d.before a0 Z = true) (ws : List Jvm.Cond) (a1 : Addr)  (h0 : Heap) (n0 : Nat) (Z0 : n0 ≤ h0.size) (E_a1 : Exa Z h0 a1 "com/example/etape/etape/chart/EnclosureForest") (g_a1 : n0 ≤ a1) (F_l : Fld Z h0 a1 "com/example/etape/etape/chart/EnclosureForest" "link" "[I" .null) (F_z : Fld Z h0 a1 "com/example/etape/etape/chart/EnclosureForest" "size" "I" (.int (0 : Int32))) :
    MetFree l (⟨"com/example/etape/etape/chart/EnclosureForest", "<init>", "()V"⟩ : MethodName) (head1 (Jvm.Cond.code (⟨"com/example/etape/etape/chart/EnclosureForest", "<init>", "()V"⟩ : MethodName) prog_24_method_1_code 1 none :: ws) ({ frames := 1, cells := 1, slots := 8, locals := 12 } : Room)) (fun a U => a = #[(.ref a1)] ∧ Z.Warmed39 U.vm ∧ U.heap = h0) (fun _ _ _ _ _ => True) (fun _ U o U' => ∃ v L, o = .returned v ∧ Qrm3 Z a1  h0 n0 v U'.heap L ∧ FrameEnd U o U' L ({ frames := 1, cells := 1, slots := 8, locals := 12 } : Room).cells ({ frames := 1, cells := 1, slots := 8, locals := 12 } : Room).slots) := by
  refine MetFree.of_bodySF (plainFor_of_name pn_com_example_etape_etape_chart_EnclosureForest) hisR ?_
  intro p e s m args below meth c s₁ Bd hml0 hP hK
  obtain ⟨rfl, hZ, hh⟩ := hP
  have hx := Bd.exec
  have hby := Bd.bytes
  have hml : c.maxLocals = 1 := hml0
  have hown : s.vm.findClass "com/example/etape/etape/chart/EnclosureForest" = some m.cls := findClass_of_methodNamed Bd.named
  have hnm := (name_of_methodNamed Bd.named Bd.method).1
  have X0 : Stand p l e ({ frames := 1, cells := 1, slots := 8, locals := 12 } : Room) s m #[(.ref a1)] below meth c s₁ [] 0 0 := Stand.of_body Bd
  have e0 : s₁.heap = h0 := by rw [← hh, Bd.state]; rfl
  have N0 := Fr.nil n0
  have pre0 : ∀ t, Steps p.tables e below (s₁.setTop (mkF m 0 #[.val (.ref a1)] [])) t → Steps p.tables e below (s₁.setTop (entryFrame m #[(.ref a1)] 1)) t := fun t k => castTop (ef_rm3 m a1) k
  obtain ⟨T1, X1, e1, st1⟩ := initO X0 hx hZ hown (hw _ (List.mem_of_getElem? (i := 14) rfl)) (hw _ (List.mem_of_getElem? (i := 15) rfl)) (hw _ (List.mem_of_getElem? (i := 16) rfl)) e0 (g := (mkF m 1 #[.val (.ref a1)] [(.ref a1)])) rfl (by rw [hml]; rfl) rfl (hb hby d3_1) (by decide) (W := 0) (by show 2 * 0 + _ ≤ _; exact Nat.le_of_eq rfl) (by decide)
  obtain ⟨T2, h2, k2, X2, e2, E2, A2, st2⟩ := newP X1 hx hZ (hw _ (List.mem_of_getElem? (i := 0) rfl)) e1 (g := (mkF m 7 #[.val (.ref a1)] [(.int (8 : Int32)), (.ref a1)])) rfl (hb hby d3_7) rfl (by decide) (cap := 8) (by decide) (by decide) (by decide) (by decide)
  obtain ⟨b2, gz2⟩ : ∃ z, z = h0.size := ⟨_, rfl⟩
  rw [← gz2] at A2 st2
  have ne_a1_b2 : a1 ≠ b2 := Nat.ne_of_lt (Nat.lt_of_lt_of_le E_a1.lt (Nat.le_of_eq gz2.symm))
  have g_b2 : n0 ≤ b2 := Nat.le_trans Z0 (Nat.le_of_eq gz2.symm)
  have sz_b2 : h0.size ≤ b2 := Nat.le_trans (Keep.refl h0 [a1]).1 (Nat.le_of_eq gz2.symm)
  have Z3 : n0 ≤ h2.size := Nat.le_trans Z0 E2.1
  have V_b2 : Arv Z h2 b2 k2 .int (8 : Int32) [(.int (0 : Int32)), (.int (0 : Int32)), (.int (0 : Int32)), (.int (0 : Int32)), (.int (0 : Int32)), (.int (0 : Int32)), (.int (0 : Int32)), (.int (0 : Int32))] (.int (0 : Int32)) := (Arv.new A2 (by decide)).pad (pad_rep [] (.int (0 : Int32)) 8)
  have f4 := F_l.ext E2
  have f5 := E_a1.ext E2
  obtain ⟨T6, h6, X6, e6, W6, st6⟩ := putF X2 hx hZ hown (host := "") (Or.inl (hw _ (List.mem_of_getElem? (i := 17) rfl))) Via.refl e2 f4 f5 (Or.inl (hw _ (List.mem_of_getElem? (i := 18) rfl))) (hw _ (List.mem_of_getElem? (i := 9) rfl)) (ty := (.array .int)) (by decide) rfl rfl (g := (mkF m 9 #[.val (.ref a1)] [(.ref b2), (.ref a1)])) rfl rfl (hb hby d3_9)
  have Z7 : n0 ≤ h6.size := Nat.le_trans Z3 (Keep.of_wr W6).1
  have Fw6 := f4.same W6
  have N6 := Fr.snoc X6 N0 g_a1
  have f8 := f5.wr W6
  have f9 := F_z.ext E2
  have f10 := f9.other W6 (Or.inr (slot_ne (Or.inl (hw _ (List.mem_of_getElem? (i := 25) rfl))) (Or.inl (hw _ (List.mem_of_getElem? (i := 18) rfl))) (by decide) (t := .int) (t' := (.array .int)) (by decide) (by decide)))
  have f11 := V_b2.other W6 (Ne.symm ne_a1_b2)
  obtain ⟨fs, hr, hrun, hended, hW, hsame⟩ := X6.leave (v := none) (fun _ => rfl)
  refine ⟨_, _, pre0 _ ?_, hrun, hended, _, _, rfl, ?_, ⟨_, rfl⟩, hW, hsame.mono (by decide) (by decide)⟩
  · show Steps p.tables e below (s₁.setTop (mkF m 0 #[.val (.ref a1)] [])) _
    refine XS.aloadN X0.here hx rfl (hb hby d3_0) rfl rfl ?_
    show Steps p.tables e below (s₁.setTop (mkF m 1 #[.val (.ref a1)] [(.ref a1)])) _
    refine st1 _ ?_
    show Steps p.tables e below (T1.setTop (mkF m 4 #[.val (.ref a1)] [])) _
    refine XS.aloadN X1.here hx rfl (hb hby d3_4) rfl rfl ?_
    show Steps p.tables e below (T1.setTop (mkF m 5 #[.val (.ref a1)] [(.ref a1)])) _
    refine XS.bipush X1.here hx rfl (hb hby d3_5) ?_
    show Steps p.tables e below (T1.setTop (mkF m 7 #[.val (.ref a1)] [(.int (8 : Int32)), (.ref a1)])) _
    refine st2 _ ?_
    show Steps p.tables e below (T2.setTop (mkF m 9 #[.val (.ref a1)] [(.ref b2), (.ref a1)])) _
    refine st6 _ ?_
    show Steps p.tables e below (T6.setTop (mkF m 12 #[.val (.ref a1)] [])) _
    exact X6.returnOut hx Bd.returns (hb hby d3_12) hr
  · show Qrm3 Z a1  h0 n0 _ T6.heap _
    rw [e6]
    exact ⟨b2, k2, rfl, N6, (((Keep.refl h0 [a1]).ext E2).wr W6 (Or.inl (List.mem_of_getElem? (i := 0) rfl))), g_b2, sz_b2, ne_a1_b2, f8, f10, Fw6, f11⟩
theorem d5_0 : decode prog_24_method_2_code 0 = .ok (.aload_n 0, 1) := by decide +kernel
theorem d5_1 : decode prog_24_method_2_code 1 = .ok (.getfield 13, 3) := by decide +kernel
theorem d5_4 : decode prog_24_method_2_code 4 = .ok (.aload_n 0, 1) := by decide +kernel
theorem d5_5 : decode prog_24_method_2_code 5 = .ok (.getfield 7, 3) := by decide +kernel
theorem d5_8 : decode prog_24_method_2_code 8 = .ok (.arraylength, 1) := by decide +kernel
theorem d5_9 : decode prog_24_method_2_code 9 = .ok (.if_icmp .ne 20, 3) := by decide +kernel
theorem d5_29 : decode prog_24_method_2_code 29 = .ok (.aload_n 0, 1) := by decide +kernel
theorem d5_30 : decode prog_24_method_2_code 30 = .ok (.getfield 7, 3) := by decide +kernel
theorem d5_33 : decode prog_24_method_2_code 33 = .ok (.aload_n 0, 1) := by decide +kernel
theorem d5_34 : decode prog_24_method_2_code 34 = .ok (.getfield 13, 3) := by decide +kernel
theorem d5_37 : decode prog_24_method_2_code 37 = .ok (.aload_n 0, 1) := by decide +kernel
theorem d5_38 : decode prog_24_method_2_code 38 = .ok (.getfield 13, 3) := by decide +kernel
theorem d5_41 : decode prog_24_method_2_code 41 = .ok (.iastore, 1) := by decide +kernel
theorem d5_42 : decode prog_24_method_2_code 42 = .ok (.aload_n 0, 1) := by decide +kernel
theorem d5_43 : decode prog_24_method_2_code 43 = .ok (.dup, 1) := by decide +kernel
theorem d5_44 : decode prog_24_method_2_code 44 = .ok (.getfield 13, 3) := by decide +kernel
theorem d5_47 : decode prog_24_method_2_code 47 = .ok (.iconst 1, 1) := by decide +kernel
theorem d5_48 : decode prog_24_method_2_code 48 = .ok (.iadd, 1) := by decide +kernel
theorem d5_49 : decode prog_24_method_2_code 49 = .ok (.putfield 13, 3) := by decide +kernel
theorem d5_52 : decode prog_24_method_2_code 52 = .ok (.return_, 1) := by decide +kernel
theorem ef_rm5_0 (m : MethodId) (x0 : Addr) : entryFrame m #[(.ref x0)] 1 = mkF m 0 #[.val (.ref x0)] [] := by first | (simp [entryFrame, mkF, argsToLocals, Value.category]; done) | rfl
def Qrm5_0 (Z : State) (a1 : Addr) (b : Addr) (kA : ClassId) (y0 y1 y2 y3 y4 y5 y6 y7 : Int32) (h0 : Heap) (n0 : Nat) (v : Option Value) (h : Heap) (L : List Loc) : Prop := v = none ∧ Fr n0 L ∧ Keep h0 h [a1, b] ∧ Exa Z h a1 "com/example/etape/etape/chart/EnclosureForest" ∧ Fld Z h a1 "com/example/etape/etape/chart/EnclosureForest" "size" "I" (.int (1 : Int32)) ∧ Fld Z h a1 "com/example/etape/etape/chart/EnclosureForest" "link" "[I" (.ref b) ∧ Arv Z h b kA .int (8 : Int32) [(.int (0 : Int32)), (.int y1), (.int y2), (.int y3), (.int y4), (.int y5), (.int y6), (.int y7)] (.int (0 : Int32))
set_option maxRecDepth 65536 in
set_option maxHeartbeats 40000000 in
theorem rm5_0 (l : Launch) (Z : State) (a0 : Array Value) (hw : ∀ d ∈ tables_1, d.before a0 Z = true) (ws : List Jvm.Cond) (a1 : Addr) (b : Addr) (kA : ClassId) (y0 y1 y2 y3 y4 y5 y6 y7 : Int32) (h0 : Heap) (n0 : Nat) (Z0 : n0 ≤ h0.size) (E_a1 : Exa Z h0 a1 "com/example/etape/etape/chart/EnclosureForest") (g_a1 : n0 ≤ a1) (g_b : n0 ≤ b) (hne : a1 ≠ b) (F_z : Fld Z h0 a1 "com/example/etape/etape/chart/EnclosureForest" "size" "I" (.int (0 : Int32))) (F_l : Fld Z h0 a1 "com/example/etape/etape/chart/EnclosureForest" "link" "[I" (.ref b)) (V_b : Arv Z h0 b kA .int (8 : Int32) [(.int y0), (.int y1), (.int y2), (.int y3), (.int y4), (.int y5), (.int y6), (.int y7)] (.int (0 : Int32))) :
    MetFree l (⟨"com/example/etape/etape/chart/EnclosureForest", "add", "()V"⟩ : MethodName) (head1 (Jvm.Cond.code (⟨"com/example/etape/etape/chart/EnclosureForest", "add", "()V"⟩ : MethodName) prog_24_method_2_code 1 none :: ws) ({ frames := 0, cells := 0, slots := 0, locals := 0 } : Room)) (fun a U => a = #[(.ref a1)] ∧ Z.Warmed39 U.vm ∧ U.heap = h0) (fun _ _ _ _ _ => True) (fun _ U o U' => ∃ v L, o = .returned v ∧ Qrm5_0 Z a1 b kA y0 y1 y2 y3 y4 y5 y6 y7 h0 n0 v U'.heap L ∧ FrameEnd U o U' L ({ frames := 0, cells := 0, slots := 0, locals := 0 } : Room).cells ({ frames := 0, cells := 0, slots := 0, locals := 0 } : Room).slots) := by
  refine MetFree.of_bodySF (plainFor_of_name pn_com_example_etape_etape_chart_EnclosureForest) hisR ?_
  intro p e s m args below meth c s₁ Bd hml0 hP hK
  obtain ⟨rfl, hZ, hh⟩ := hP
  have hx := Bd.exec
  have hby := Bd.bytes
  have hml : c.maxLocals = 1 := hml0
  have hown : s.vm.findClass "com/example/etape/etape/chart/EnclosureForest" = some m.cls := findClass_of_methodNamed Bd.named
  have hnm := (name_of_methodNamed Bd.named Bd.method).1
  have X0 : Stand p l e ({ frames := 0, cells := 0, slots := 0, locals := 0 } : Room) s m #[(.ref a1)] below meth c s₁ [] 0 0 := Stand.of_body Bd
  have e0 : s₁.heap = h0 := by rw [← hh, Bd.state]; rfl
  have N0 := Fr.nil n0
  have pre0 : ∀ t, Steps p.tables e below (s₁.setTop (mkF m 0 #[.val (.ref a1)] [])) t → Steps p.tables e below (s₁.setTop (entryFrame m #[(.ref a1)] 1)) t := fun t k => castTop (ef_rm5_0 m a1) k
  obtain ⟨T1, X1, e1, st1⟩ := getF X0 hx hZ hown (host := "") (Or.inl (hw _ (List.mem_of_getElem? (i := 24) rfl))) Via.refl e0 F_z (g := (mkF m 1 #[.val (.ref a1)] [(.ref a1)])) rfl rfl (hb hby d5_1)
  obtain ⟨T2, X2, e2, st2⟩ := getF X1 hx hZ hown (host := "") (Or.inl (hw _ (List.mem_of_getElem? (i := 17) rfl))) Via.refl e1 F_l (g := (mkF m 5 #[.val (.ref a1)] [(.ref a1), (.int (0 : Int32))])) rfl rfl (hb hby d5_5)
  obtain ⟨cl0, Ar0, -, S0, M0, Hs0, -⟩ := (id V_b)
  obtain ⟨T3, X3, e3, st3⟩ := getF X2 hx hZ hown (host := "") (Or.inl (hw _ (List.mem_of_getElem? (i := 17) rfl))) Via.refl e2 F_l (g := (mkF m 30 #[.val (.ref a1)] [(.ref a1)])) rfl rfl (hb hby d5_30)
  obtain ⟨T4, X4, e4, st4⟩ := getF X3 hx hZ hown (host := "") (Or.inl (hw _ (List.mem_of_getElem? (i := 24) rfl))) Via.refl e3 F_z (g := (mkF m 34 #[.val (.ref a1)] [(.ref a1), (.ref b)])) rfl rfl (hb hby d5_34)
  obtain ⟨T5, X5, e5, st5⟩ := getF X4 hx hZ hown (host := "") (Or.inl (hw _ (List.mem_of_getElem? (i := 24) rfl))) Via.refl e4 F_z (g := (mkF m 38 #[.val (.ref a1)] [(.ref a1), (.int (0 : Int32)), (.ref b)])) rfl rfl (hb hby d5_38)
  obtain ⟨cl6, Ar6, q6, S6, M6, Hs6, G6⟩ := V_b
  have hin6 : ¬ ((0 : Int32) < 0 ∨ cl6.slots.size ≤ ((0 : Int32)).toNatClampNeg) := inb_of S6 ⟨by decide, by decide⟩
  obtain ⟨T7, h7, X7, e7, W7, st7⟩ := stI X5 hx hZ e5 Ar6 (j := (0 : Int32)) hin6 (g := (mkF m 41 #[.val (.ref a1)] [(.int (0 : Int32)), (.int (0 : Int32)), (.ref b)])) rfl rfl (hb hby d5_41)
  have Z8 : n0 ≤ h7.size := Nat.le_trans Z0 (Keep.of_wr W7).1
  have V7 := Arv.set Ar6 q6 S6 M6 Hs6 G6 rfl W7 0 rfl (Nat.le_of_ble_eq_true rfl)
  have N7 := Fr.snoc X7 N0 g_b
  have f9 := F_z.other W7 (Or.inl hne)
  obtain ⟨T10, X10, e10, st10⟩ := getF X7 hx hZ hown (host := "") (Or.inl (hw _ (List.mem_of_getElem? (i := 24) rfl))) Via.refl e7 f9 (g := (mkF m 44 #[.val (.ref a1)] [(.ref a1), (.ref a1)])) rfl rfl (hb hby d5_44)
  have f11 := E_a1.wr W7
  obtain ⟨T12, h12, X12, e12, W12, st12⟩ := putF X10 hx hZ hown (host := "") (Or.inl (hw _ (List.mem_of_getElem? (i := 24) rfl))) Via.refl e10 f9 f11 (Or.inl (hw _ (List.mem_of_getElem? (i := 25) rfl))) (hw _ (List.mem_of_getElem? (i := 9) rfl)) (ty := .int) (by decide) rfl rfl (g := (mkF m 49 #[.val (.ref a1)] [(.int (1 : Int32)), (.ref a1)])) rfl rfl (hb hby d5_49)
  have Z13 : n0 ≤ h12.size := Nat.le_trans Z8 (Keep.of_wr W12).1
  have Fw12 := f9.same W12
  have N12 := Fr.snoc X12 N7 g_a1
  have f14 := f11.wr W12
  have f15 := F_l.other W7 (Or.inl hne)
  have f16 := f15.other W12 (Or.inr (slot_ne (Or.inl (hw _ (List.mem_of_getElem? (i := 18) rfl))) (Or.inl (hw _ (List.mem_of_getElem? (i := 25) rfl))) (by decide) (t := (.array .int)) (t' := .int) (by decide) (by decide)))
  have f17 := V7.other W12 (Ne.symm hne)
  obtain ⟨fs, hr, hrun, hended, hW, hsame⟩ := X12.leave (v := none) (fun _ => rfl)
  refine ⟨_, _, pre0 _ ?_, hrun, hended, _, _, rfl, ?_, ⟨_, rfl⟩, hW, hsame.mono (by decide) (by decide)⟩
  · show Steps p.tables e below (s₁.setTop (mkF m 0 #[.val (.ref a1)] [])) _
    refine XS.aloadN X0.here hx rfl (hb hby d5_0) rfl rfl ?_
    show Steps p.tables e below (s₁.setTop (mkF m 1 #[.val (.ref a1)] [(.ref a1)])) _
    refine st1 _ ?_
    show Steps p.tables e below (T1.setTop (mkF m 4 #[.val (.ref a1)] [(.int (0 : Int32))])) _
    refine XS.aloadN X1.here hx rfl (hb hby d5_4) rfl rfl ?_
    show Steps p.tables e below (T1.setTop (mkF m 5 #[.val (.ref a1)] [(.ref a1), (.int (0 : Int32))])) _
    refine st2 _ ?_
    show Steps p.tables e below (T2.setTop (mkF m 8 #[.val (.ref a1)] [(.ref b), (.int (0 : Int32))])) _
    refine X2.arraylength hx (cell := cl0) (by rw [e2]; exact Ar0.1) (State.isArrayOf_alike hZ.alike Ar0.2.1) (g := (mkF m 8 #[.val (.ref a1)] [(.ref b), (.int (0 : Int32))])) rfl (rest := [(.int (0 : Int32))]) rfl (hb hby d5_8) _ ?_
    rw [len_of S0 M0]
    show Steps p.tables e below (T2.setTop (mkF m 9 #[.val (.ref a1)] [(.int (8 : Int32)), (.int (0 : Int32))])) _
    refine XS.icmpYes X2.here hx rfl (pc0 := 9) (pc' := 29) rfl (hb hby d5_9) rfl (feq (by decide : ¬ ((0 : Int32) = (8 : Int32)))).2 (by decide) (by decide) ?_
    show Steps p.tables e below (T2.setTop (mkF m 29 #[.val (.ref a1)] [])) _
    refine XS.aloadN X2.here hx rfl (hb hby d5_29) rfl rfl ?_
    show Steps p.tables e below (T2.setTop (mkF m 30 #[.val (.ref a1)] [(.ref a1)])) _
    refine st3 _ ?_
    show Steps p.tables e below (T3.setTop (mkF m 33 #[.val (.ref a1)] [(.ref b)])) _
    refine XS.aloadN X3.here hx rfl (hb hby d5_33) rfl rfl ?_
    show Steps p.tables e below (T3.setTop (mkF m 34 #[.val (.ref a1)] [(.ref a1), (.ref b)])) _
    refine st4 _ ?_
    show Steps p.tables e below (T4.setTop (mkF m 37 #[.val (.ref a1)] [(.int (0 : Int32)), (.ref b)])) _
    refine XS.aloadN X4.here hx rfl (hb hby d5_37) rfl rfl ?_
    show Steps p.tables e below (T4.setTop (mkF m 38 #[.val (.ref a1)] [(.ref a1), (.int (0 : Int32)), (.ref b)])) _
    refine st5 _ ?_
    show Steps p.tables e below (T5.setTop (mkF m 41 #[.val (.ref a1)] [(.int (0 : Int32)), (.int (0 : Int32)), (.ref b)])) _
    refine st7 _ ?_
    show Steps p.tables e below (T7.setTop (mkF m 42 #[.val (.ref a1)] [])) _
    refine XS.aloadN X7.here hx rfl (hb hby d5_42) rfl rfl ?_
    show Steps p.tables e below (T7.setTop (mkF m 43 #[.val (.ref a1)] [(.ref a1)])) _
    refine XS.dup X7.here hx rfl (hb hby d5_43) rfl rfl ?_
    show Steps p.tables e below (T7.setTop (mkF m 44 #[.val (.ref a1)] [(.ref a1), (.ref a1)])) _
    refine st10 _ ?_
    show Steps p.tables e below (T10.setTop (mkF m 47 #[.val (.ref a1)] [(.int (0 : Int32)), (.ref a1)])) _
    refine XS.iconst X10.here hx rfl (hb hby d5_47) ?_
    show Steps p.tables e below (T10.setTop (mkF m 48 #[.val (.ref a1)] [(.int (1 : Int32)), (.int (0 : Int32)), (.ref a1)])) _
    refine XS.iadd X10.here hx rfl (hb hby d5_48) rfl ?_
    show Steps p.tables e below (T10.setTop (mkF m 49 #[.val (.ref a1)] [(.int (1 : Int32)), (.ref a1)])) _
    refine st12 _ ?_
    show Steps p.tables e below (T12.setTop (mkF m 52 #[.val (.ref a1)] [])) _
    exact X12.returnOut hx Bd.returns (hb hby d5_52) hr
  · show Qrm5_0 Z a1 b kA y0 y1 y2 y3 y4 y5 y6 y7 h0 n0 _ T12.heap _
    rw [e12]
    exact ⟨rfl, N12, (((Keep.refl h0 [a1, b]).wr W7 (Or.inl (List.mem_of_getElem? (i := 1) rfl))).wr W12 (Or.inl (List.mem_of_getElem? (i := 0) rfl))), f14, Fw12, f16, f17⟩
theorem ef_rm5_1 (m : MethodId) (x0 : Addr) : entryFrame m #[(.ref x0)] 1 = mkF m 0 #[.val (.ref x0)] [] := by first | (simp [entryFrame, mkF, argsToLocals, Value.category]; done) | rfl
def Qrm5_1 (Z : State) (a1 : Addr) (b : Addr) (kA : ClassId) (y0 y1 y2 y3 y4 y5 y6 y7 : Int32) (h0 : Heap) (n0 : Nat) (v : Option Value) (h : Heap) (L : List Loc) : Prop := v = none ∧ Fr n0 L ∧ Keep h0 h [a1, b] ∧ Exa Z h a1 "com/example/etape/etape/chart/EnclosureForest" ∧ Fld Z h a1 "com/example/etape/etape/chart/EnclosureForest" "size" "I" (.int (2 : Int32)) ∧ Fld Z h a1 "com/example/etape/etape/chart/EnclosureForest" "link" "[I" (.ref b) ∧ Arv Z h b kA .int (8 : Int32) [(.int y0), (.int (1 : Int32)), (.int y2), (.int y3), (.int y4), (.int y5), (.int y6), (.int y7)] (.int (0 : Int32))
set_option maxRecDepth 65536 in
set_option maxHeartbeats 40000000 in
theorem rm5_1 (l : Launch) (Z : State) (a0 : Array Value) (hw : ∀ d ∈ tables_1, d.before a0 Z = true) (ws : List Jvm.Cond) (a1 : Addr) (b : Addr) (kA : ClassId) (y0 y1 y2 y3 y4 y5 y6 y7 : Int32) (h0 : Heap) (n0 : Nat) (Z0 : n0 ≤ h0.size) (E_a1 : Exa Z h0 a1 "com/example/etape/etape/chart/EnclosureForest") (g_a1 : n0 ≤ a1) (g_b : n0 ≤ b) (hne : a1 ≠ b) (F_z : Fld Z h0 a1 "com/example/etape/etape/chart/EnclosureForest" "size" "I" (.int (1 : Int32))) (F_l : Fld Z h0 a1 "com/example/etape/etape/chart/EnclosureForest" "link" "[I" (.ref b)) (V_b : Arv Z h0 b kA .int (8 : Int32) [(.int y0), (.int y1), (.int y2), (.int y3), (.int y4), (.int y5), (.int y6), (.int y7)] (.int (0 : Int32))) :
    MetFree l (⟨"com/example/etape/etape/chart/EnclosureForest", "add", "()V"⟩ : MethodName) (head1 (Jvm.Cond.code (⟨"com/example/etape/etape/chart/EnclosureForest", "add", "()V"⟩ : MethodName) prog_24_method_2_code 1 none :: ws) ({ frames := 0, cells := 0, slots := 0, locals := 0 } : Room)) (fun a U => a = #[(.ref a1)] ∧ Z.Warmed39 U.vm ∧ U.heap = h0) (fun _ _ _ _ _ => True) (fun _ U o U' => ∃ v L, o = .returned v ∧ Qrm5_1 Z a1 b kA y0 y1 y2 y3 y4 y5 y6 y7 h0 n0 v U'.heap L ∧ FrameEnd U o U' L ({ frames := 0, cells := 0, slots := 0, locals := 0 } : Room).cells ({ frames := 0, cells := 0, slots := 0, locals := 0 } : Room).slots) := by
  refine MetFree.of_bodySF (plainFor_of_name pn_com_example_etape_etape_chart_EnclosureForest) hisR ?_
  intro p e s m args below meth c s₁ Bd hml0 hP hK
  obtain ⟨rfl, hZ, hh⟩ := hP
  have hx := Bd.exec
  have hby := Bd.bytes
  have hml : c.maxLocals = 1 := hml0
  have hown : s.vm.findClass "com/example/etape/etape/chart/EnclosureForest" = some m.cls := findClass_of_methodNamed Bd.named
  have hnm := (name_of_methodNamed Bd.named Bd.method).1
  have X0 : Stand p l e ({ frames := 0, cells := 0, slots := 0, locals := 0 } : Room) s m #[(.ref a1)] below meth c s₁ [] 0 0 := Stand.of_body Bd
  have e0 : s₁.heap = h0 := by rw [← hh, Bd.state]; rfl
  have N0 := Fr.nil n0
  have pre0 : ∀ t, Steps p.tables e below (s₁.setTop (mkF m 0 #[.val (.ref a1)] [])) t → Steps p.tables e below (s₁.setTop (entryFrame m #[(.ref a1)] 1)) t := fun t k => castTop (ef_rm5_1 m a1) k
  obtain ⟨T1, X1, e1, st1⟩ := getF X0 hx hZ hown (host := "") (Or.inl (hw _ (List.mem_of_getElem? (i := 24) rfl))) Via.refl e0 F_z (g := (mkF m 1 #[.val (.ref a1)] [(.ref a1)])) rfl rfl (hb hby d5_1)
  obtain ⟨T2, X2, e2, st2⟩ := getF X1 hx hZ hown (host := "") (Or.inl (hw _ (List.mem_of_getElem? (i := 17) rfl))) Via.refl e1 F_l (g := (mkF m 5 #[.val (.ref a1)] [(.ref a1), (.int (1 : Int32))])) rfl rfl (hb hby d5_5)
  obtain ⟨cl0, Ar0, -, S0, M0, Hs0, -⟩ := (id V_b)
  obtain ⟨T3, X3, e3, st3⟩ := getF X2 hx hZ hown (host := "") (Or.inl (hw _ (List.mem_of_getElem? (i := 17) rfl))) Via.refl e2 F_l (g := (mkF m 30 #[.val (.ref a1)] [(.ref a1)])) rfl rfl (hb hby d5_30)
  obtain ⟨T4, X4, e4, st4⟩ := getF X3 hx hZ hown (host := "") (Or.inl (hw _ (List.mem_of_getElem? (i := 24) rfl))) Via.refl e3 F_z (g := (mkF m 34 #[.val (.ref a1)] [(.ref a1), (.ref b)])) rfl rfl (hb hby d5_34)
  obtain ⟨T5, X5, e5, st5⟩ := getF X4 hx hZ hown (host := "") (Or.inl (hw _ (List.mem_of_getElem? (i := 24) rfl))) Via.refl e4 F_z (g := (mkF m 38 #[.val (.ref a1)] [(.ref a1), (.int (1 : Int32)), (.ref b)])) rfl rfl (hb hby d5_38)
  obtain ⟨cl6, Ar6, q6, S6, M6, Hs6, G6⟩ := V_b
  have hin6 : ¬ ((1 : Int32) < 0 ∨ cl6.slots.size ≤ ((1 : Int32)).toNatClampNeg) := inb_of S6 ⟨by decide, by decide⟩
  obtain ⟨T7, h7, X7, e7, W7, st7⟩ := stI X5 hx hZ e5 Ar6 (j := (1 : Int32)) hin6 (g := (mkF m 41 #[.val (.ref a1)] [(.int (1 : Int32)), (.int (1 : Int32)), (.ref b)])) rfl rfl (hb hby d5_41)
  have Z8 : n0 ≤ h7.size := Nat.le_trans Z0 (Keep.of_wr W7).1
  have V7 := Arv.set Ar6 q6 S6 M6 Hs6 G6 rfl W7 1 rfl (Nat.le_of_ble_eq_true rfl)
  have N7 := Fr.snoc X7 N0 g_b
  have f9 := F_z.other W7 (Or.inl hne)
  obtain ⟨T10, X10, e10, st10⟩ := getF X7 hx hZ hown (host := "") (Or.inl (hw _ (List.mem_of_getElem? (i := 24) rfl))) Via.refl e7 f9 (g := (mkF m 44 #[.val (.ref a1)] [(.ref a1), (.ref a1)])) rfl rfl (hb hby d5_44)
  have f11 := E_a1.wr W7
  obtain ⟨T12, h12, X12, e12, W12, st12⟩ := putF X10 hx hZ hown (host := "") (Or.inl (hw _ (List.mem_of_getElem? (i := 24) rfl))) Via.refl e10 f9 f11 (Or.inl (hw _ (List.mem_of_getElem? (i := 25) rfl))) (hw _ (List.mem_of_getElem? (i := 9) rfl)) (ty := .int) (by decide) rfl rfl (g := (mkF m 49 #[.val (.ref a1)] [(.int (2 : Int32)), (.ref a1)])) rfl rfl (hb hby d5_49)
  have Z13 : n0 ≤ h12.size := Nat.le_trans Z8 (Keep.of_wr W12).1
  have Fw12 := f9.same W12
  have N12 := Fr.snoc X12 N7 g_a1
  have f14 := f11.wr W12
  have f15 := F_l.other W7 (Or.inl hne)
  have f16 := f15.other W12 (Or.inr (slot_ne (Or.inl (hw _ (List.mem_of_getElem? (i := 18) rfl))) (Or.inl (hw _ (List.mem_of_getElem? (i := 25) rfl))) (by decide) (t := (.array .int)) (t' := .int) (by decide) (by decide)))
  have f17 := V7.other W12 (Ne.symm hne)
  obtain ⟨fs, hr, hrun, hended, hW, hsame⟩ := X12.leave (v := none) (fun _ => rfl)
  refine ⟨_, _, pre0 _ ?_, hrun, hended, _, _, rfl, ?_, ⟨_, rfl⟩, hW, hsame.mono (by decide) (by decide)⟩
  · show Steps p.tables e below (s₁.setTop (mkF m 0 #[.val (.ref a1)] [])) _
    refine XS.aloadN X0.here hx rfl (hb hby d5_0) rfl rfl ?_
    show Steps p.tables e below (s₁.setTop (mkF m 1 #[.val (.ref a1)] [(.ref a1)])) _
    refine st1 _ ?_
    show Steps p.tables e below (T1.setTop (mkF m 4 #[.val (.ref a1)] [(.int (1 : Int32))])) _
    refine XS.aloadN X1.here hx rfl (hb hby d5_4) rfl rfl ?_
    show Steps p.tables e below (T1.setTop (mkF m 5 #[.val (.ref a1)] [(.ref a1), (.int (1 : Int32))])) _
    refine st2 _ ?_
    show Steps p.tables e below (T2.setTop (mkF m 8 #[.val (.ref a1)] [(.ref b), (.int (1 : Int32))])) _
    refine X2.arraylength hx (cell := cl0) (by rw [e2]; exact Ar0.1) (State.isArrayOf_alike hZ.alike Ar0.2.1) (g := (mkF m 8 #[.val (.ref a1)] [(.ref b), (.int (1 : Int32))])) rfl (rest := [(.int (1 : Int32))]) rfl (hb hby d5_8) _ ?_
    rw [len_of S0 M0]
    show Steps p.tables e below (T2.setTop (mkF m 9 #[.val (.ref a1)] [(.int (8 : Int32)), (.int (1 : Int32))])) _
    refine XS.icmpYes X2.here hx rfl (pc0 := 9) (pc' := 29) rfl (hb hby d5_9) rfl (feq (by decide : ¬ ((1 : Int32) = (8 : Int32)))).2 (by decide) (by decide) ?_
    show Steps p.tables e below (T2.setTop (mkF m 29 #[.val (.ref a1)] [])) _
    refine XS.aloadN X2.here hx rfl (hb hby d5_29) rfl rfl ?_
    show Steps p.tables e below (T2.setTop (mkF m 30 #[.val (.ref a1)] [(.ref a1)])) _
    refine st3 _ ?_
    show Steps p.tables e below (T3.setTop (mkF m 33 #[.val (.ref a1)] [(.ref b)])) _
    refine XS.aloadN X3.here hx rfl (hb hby d5_33) rfl rfl ?_
    show Steps p.tables e below (T3.setTop (mkF m 34 #[.val (.ref a1)] [(.ref a1), (.ref b)])) _
    refine st4 _ ?_
    show Steps p.tables e below (T4.setTop (mkF m 37 #[.val (.ref a1)] [(.int (1 : Int32)), (.ref b)])) _
    refine XS.aloadN X4.here hx rfl (hb hby d5_37) rfl rfl ?_
    show Steps p.tables e below (T4.setTop (mkF m 38 #[.val (.ref a1)] [(.ref a1), (.int (1 : Int32)), (.ref b)])) _
    refine st5 _ ?_
    show Steps p.tables e below (T5.setTop (mkF m 41 #[.val (.ref a1)] [(.int (1 : Int32)), (.int (1 : Int32)), (.ref b)])) _
    refine st7 _ ?_
    show Steps p.tables e below (T7.setTop (mkF m 42 #[.val (.ref a1)] [])) _
    refine XS.aloadN X7.here hx rfl (hb hby d5_42) rfl rfl ?_
    show Steps p.tables e below (T7.setTop (mkF m 43 #[.val (.ref a1)] [(.ref a1)])) _
    refine XS.dup X7.here hx rfl (hb hby d5_43) rfl rfl ?_
    show Steps p.tables e below (T7.setTop (mkF m 44 #[.val (.ref a1)] [(.ref a1), (.ref a1)])) _
    refine st10 _ ?_
    show Steps p.tables e below (T10.setTop (mkF m 47 #[.val (.ref a1)] [(.int (1 : Int32)), (.ref a1)])) _
    refine XS.iconst X10.here hx rfl (hb hby d5_47) ?_
    show Steps p.tables e below (T10.setTop (mkF m 48 #[.val (.ref a1)] [(.int (1 : Int32)), (.int (1 : Int32)), (.ref a1)])) _
    refine XS.iadd X10.here hx rfl (hb hby d5_48) rfl ?_
    show Steps p.tables e below (T10.setTop (mkF m 49 #[.val (.ref a1)] [(.int (2 : Int32)), (.ref a1)])) _
    refine st12 _ ?_
    show Steps p.tables e below (T12.setTop (mkF m 52 #[.val (.ref a1)] [])) _
    exact X12.returnOut hx Bd.returns (hb hby d5_52) hr
  · show Qrm5_1 Z a1 b kA y0 y1 y2 y3 y4 y5 y6 y7 h0 n0 _ T12.heap _
    rw [e12]
    exact ⟨rfl, N12, (((Keep.refl h0 [a1, b]).wr W7 (Or.inl (List.mem_of_getElem? (i := 1) rfl))).wr W12 (Or.inl (List.mem_of_getElem? (i := 0) rfl))), f14, Fw12, f16, f17⟩
theorem ef_rm5_2 (m : MethodId) (x0 : Addr) : entryFrame m #[(.ref x0)] 1 = mkF m 0 #[.val (.ref x0)] [] := by first | (simp [entryFrame, mkF, argsToLocals, Value.category]; done) | rfl
def Qrm5_2 (Z : State) (a1 : Addr) (b : Addr) (kA : ClassId) (y0 y1 y2 y3 y4 y5 y6 y7 : Int32) (h0 : Heap) (n0 : Nat) (v : Option Value) (h : Heap) (L : List Loc) : Prop := v = none ∧ Fr n0 L ∧ Keep h0 h [a1, b] ∧ Exa Z h a1 "com/example/etape/etape/chart/EnclosureForest" ∧ Fld Z h a1 "com/example/etape/etape/chart/EnclosureForest" "size" "I" (.int (3 : Int32)) ∧ Fld Z h a1 "com/example/etape/etape/chart/EnclosureForest" "link" "[I" (.ref b) ∧ Arv Z h b kA .int (8 : Int32) [(.int y0), (.int y1), (.int (2 : Int32)), (.int y3), (.int y4), (.int y5), (.int y6), (.int y7)] (.int (0 : Int32))
set_option maxRecDepth 65536 in
set_option maxHeartbeats 40000000 in
theorem rm5_2 (l : Launch) (Z : State) (a0 : Array Value) (hw : ∀ d ∈ tables_1, d.before a0 Z = true) (ws : List Jvm.Cond) (a1 : Addr) (b : Addr) (kA : ClassId) (y0 y1 y2 y3 y4 y5 y6 y7 : Int32) (h0 : Heap) (n0 : Nat) (Z0 : n0 ≤ h0.size) (E_a1 : Exa Z h0 a1 "com/example/etape/etape/chart/EnclosureForest") (g_a1 : n0 ≤ a1) (g_b : n0 ≤ b) (hne : a1 ≠ b) (F_z : Fld Z h0 a1 "com/example/etape/etape/chart/EnclosureForest" "size" "I" (.int (2 : Int32))) (F_l : Fld Z h0 a1 "com/example/etape/etape/chart/EnclosureForest" "link" "[I" (.ref b)) (V_b : Arv Z h0 b kA .int (8 : Int32) [(.int y0), (.int y1), (.int y2), (.int y3), (.int y4), (.int y5), (.int y6), (.int y7)] (.int (0 : Int32))) :
    MetFree l (⟨"com/example/etape/etape/chart/EnclosureForest", "add", "()V"⟩ : MethodName) (head1 (Jvm.Cond.code (⟨"com/example/etape/etape/chart/EnclosureForest", "add", "()V"⟩ : MethodName) prog_24_method_2_code 1 none :: ws) ({ frames := 0, cells := 0, slots := 0, locals := 0 } : Room)) (fun a U => a = #[(.ref a1)] ∧ Z.Warmed39 U.vm ∧ U.heap = h0) (fun _ _ _ _ _ => True) (fun _ U o U' => ∃ v L, o = .returned v ∧ Qrm5_2 Z a1 b kA y0 y1 y2 y3 y4 y5 y6 y7 h0 n0 v U'.heap L ∧ FrameEnd U o U' L ({ frames := 0, cells := 0, slots := 0, locals := 0 } : Room).cells ({ frames := 0, cells := 0, slots := 0, locals := 0 } : Room).slots) := by
  refine MetFree.of_bodySF (plainFor_of_name pn_com_example_etape_etape_chart_EnclosureForest) hisR ?_
  intro p e s m args below meth c s₁ Bd hml0 hP hK
  obtain ⟨rfl, hZ, hh⟩ := hP
  have hx := Bd.exec
  have hby := Bd.bytes
  have hml : c.maxLocals = 1 := hml0
  have hown : s.vm.findClass "com/example/etape/etape/chart/EnclosureForest" = some m.cls := findClass_of_methodNamed Bd.named
  have hnm := (name_of_methodNamed Bd.named Bd.method).1
  have X0 : Stand p l e ({ frames := 0, cells := 0, slots := 0, locals := 0 } : Room) s m #[(.ref a1)] below meth c s₁ [] 0 0 := Stand.of_body Bd
  have e0 : s₁.heap = h0 := by rw [← hh, Bd.state]; rfl
  have N0 := Fr.nil n0
  have pre0 : ∀ t, Steps p.tables e below (s₁.setTop (mkF m 0 #[.val (.ref a1)] [])) t → Steps p.tables e below (s₁.setTop (entryFrame m #[(.ref a1)] 1)) t := fun t k => castTop (ef_rm5_2 m a1) k
  obtain ⟨T1, X1, e1, st1⟩ := getF X0 hx hZ hown (host := "") (Or.inl (hw _ (List.mem_of_getElem? (i := 24) rfl))) Via.refl e0 F_z (g := (mkF m 1 #[.val (.ref a1)] [(.ref a1)])) rfl rfl (hb hby d5_1)
  obtain ⟨T2, X2, e2, st2⟩ := getF X1 hx hZ hown (host := "") (Or.inl (hw _ (List.mem_of_getElem? (i := 17) rfl))) Via.refl e1 F_l (g := (mkF m 5 #[.val (.ref a1)] [(.ref a1), (.int (2 : Int32))])) rfl rfl (hb hby d5_5)
  obtain ⟨cl0, Ar0, -, S0, M0, Hs0, -⟩ := (id V_b)
  obtain ⟨T3, X3, e3, st3⟩ := getF X2 hx hZ hown (host := "") (Or.inl (hw _ (List.mem_of_getElem? (i := 17) rfl))) Via.refl e2 F_l (g := (mkF m 30 #[.val (.ref a1)] [(.ref a1)])) rfl rfl (hb hby d5_30)
  obtain ⟨T4, X4, e4, st4⟩ := getF X3 hx hZ hown (host := "") (Or.inl (hw _ (List.mem_of_getElem? (i := 24) rfl))) Via.refl e3 F_z (g := (mkF m 34 #[.val (.ref a1)] [(.ref a1), (.ref b)])) rfl rfl (hb hby d5_34)
  obtain ⟨T5, X5, e5, st5⟩ := getF X4 hx hZ hown (host := "") (Or.inl (hw _ (List.mem_of_getElem? (i := 24) rfl))) Via.refl e4 F_z (g := (mkF m 38 #[.val (.ref a1)] [(.ref a1), (.int (2 : Int32)), (.ref b)])) rfl rfl (hb hby d5_38)
  obtain ⟨cl6, Ar6, q6, S6, M6, Hs6, G6⟩ := V_b
  have hin6 : ¬ ((2 : Int32) < 0 ∨ cl6.slots.size ≤ ((2 : Int32)).toNatClampNeg) := inb_of S6 ⟨by decide, by decide⟩
  obtain ⟨T7, h7, X7, e7, W7, st7⟩ := stI X5 hx hZ e5 Ar6 (j := (2 : Int32)) hin6 (g := (mkF m 41 #[.val (.ref a1)] [(.int (2 : Int32)), (.int (2 : Int32)), (.ref b)])) rfl rfl (hb hby d5_41)
  have Z8 : n0 ≤ h7.size := Nat.le_trans Z0 (Keep.of_wr W7).1
  have V7 := Arv.set Ar6 q6 S6 M6 Hs6 G6 rfl W7 2 rfl (Nat.le_of_ble_eq_true rfl)
  have N7 := Fr.snoc X7 N0 g_b
  have f9 := F_z.other W7 (Or.inl hne)
  obtain ⟨T10, X10, e10, st10⟩ := getF X7 hx hZ hown (host := "") (Or.inl (hw _ (List.mem_of_getElem? (i := 24) rfl))) Via.refl e7 f9 (g := (mkF m 44 #[.val (.ref a1)] [(.ref a1), (.ref a1)])) rfl rfl (hb hby d5_44)
  have f11 := E_a1.wr W7
  obtain ⟨T12, h12, X12, e12, W12, st12⟩ := putF X10 hx hZ hown (host := "") (Or.inl (hw _ (List.mem_of_getElem? (i := 24) rfl))) Via.refl e10 f9 f11 (Or.inl (hw _ (List.mem_of_getElem? (i := 25) rfl))) (hw _ (List.mem_of_getElem? (i := 9) rfl)) (ty := .int) (by decide) rfl rfl (g := (mkF m 49 #[.val (.ref a1)] [(.int (3 : Int32)), (.ref a1)])) rfl rfl (hb hby d5_49)
  have Z13 : n0 ≤ h12.size := Nat.le_trans Z8 (Keep.of_wr W12).1
  have Fw12 := f9.same W12
  have N12 := Fr.snoc X12 N7 g_a1
  have f14 := f11.wr W12
  have f15 := F_l.other W7 (Or.inl hne)
  have f16 := f15.other W12 (Or.inr (slot_ne (Or.inl (hw _ (List.mem_of_getElem? (i := 18) rfl))) (Or.inl (hw _ (List.mem_of_getElem? (i := 25) rfl))) (by decide) (t := (.array .int)) (t' := .int) (by decide) (by decide)))
  have f17 := V7.other W12 (Ne.symm hne)
  obtain ⟨fs, hr, hrun, hended, hW, hsame⟩ := X12.leave (v := none) (fun _ => rfl)
  refine ⟨_, _, pre0 _ ?_, hrun, hended, _, _, rfl, ?_, ⟨_, rfl⟩, hW, hsame.mono (by decide) (by decide)⟩
  · show Steps p.tables e below (s₁.setTop (mkF m 0 #[.val (.ref a1)] [])) _
    refine XS.aloadN X0.here hx rfl (hb hby d5_0) rfl rfl ?_
    show Steps p.tables e below (s₁.setTop (mkF m 1 #[.val (.ref a1)] [(.ref a1)])) _
    refine st1 _ ?_
    show Steps p.tables e below (T1.setTop (mkF m 4 #[.val (.ref a1)] [(.int (2 : Int32))])) _
    refine XS.aloadN X1.here hx rfl (hb hby d5_4) rfl rfl ?_
    show Steps p.tables e below (T1.setTop (mkF m 5 #[.val (.ref a1)] [(.ref a1), (.int (2 : Int32))])) _
    refine st2 _ ?_
    show Steps p.tables e below (T2.setTop (mkF m 8 #[.val (.ref a1)] [(.ref b), (.int (2 : Int32))])) _
    refine X2.arraylength hx (cell := cl0) (by rw [e2]; exact Ar0.1) (State.isArrayOf_alike hZ.alike Ar0.2.1) (g := (mkF m 8 #[.val (.ref a1)] [(.ref b), (.int (2 : Int32))])) rfl (rest := [(.int (2 : Int32))]) rfl (hb hby d5_8) _ ?_
    rw [len_of S0 M0]
    show Steps p.tables e below (T2.setTop (mkF m 9 #[.val (.ref a1)] [(.int (8 : Int32)), (.int (2 : Int32))])) _
    refine XS.icmpYes X2.here hx rfl (pc0 := 9) (pc' := 29) rfl (hb hby d5_9) rfl (feq (by decide : ¬ ((2 : Int32) = (8 : Int32)))).2 (by decide) (by decide) ?_
    show Steps p.tables e below (T2.setTop (mkF m 29 #[.val (.ref a1)] [])) _
    refine XS.aloadN X2.here hx rfl (hb hby d5_29) rfl rfl ?_
    show Steps p.tables e below (T2.setTop (mkF m 30 #[.val (.ref a1)] [(.ref a1)])) _
    refine st3 _ ?_
    show Steps p.tables e below (T3.setTop (mkF m 33 #[.val (.ref a1)] [(.ref b)])) _
    refine XS.aloadN X3.here hx rfl (hb hby d5_33) rfl rfl ?_
    show Steps p.tables e below (T3.setTop (mkF m 34 #[.val (.ref a1)] [(.ref a1), (.ref b)])) _
    refine st4 _ ?_
    show Steps p.tables e below (T4.setTop (mkF m 37 #[.val (.ref a1)] [(.int (2 : Int32)), (.ref b)])) _
    refine XS.aloadN X4.here hx rfl (hb hby d5_37) rfl rfl ?_
    show Steps p.tables e below (T4.setTop (mkF m 38 #[.val (.ref a1)] [(.ref a1), (.int (2 : Int32)), (.ref b)])) _
    refine st5 _ ?_
    show Steps p.tables e below (T5.setTop (mkF m 41 #[.val (.ref a1)] [(.int (2 : Int32)), (.int (2 : Int32)), (.ref b)])) _
    refine st7 _ ?_
    show Steps p.tables e below (T7.setTop (mkF m 42 #[.val (.ref a1)] [])) _
    refine XS.aloadN X7.here hx rfl (hb hby d5_42) rfl rfl ?_
    show Steps p.tables e below (T7.setTop (mkF m 43 #[.val (.ref a1)] [(.ref a1)])) _
    refine XS.dup X7.here hx rfl (hb hby d5_43) rfl rfl ?_
    show Steps p.tables e below (T7.setTop (mkF m 44 #[.val (.ref a1)] [(.ref a1), (.ref a1)])) _
    refine st10 _ ?_
    show Steps p.tables e below (T10.setTop (mkF m 47 #[.val (.ref a1)] [(.int (2 : Int32)), (.ref a1)])) _
    refine XS.iconst X10.here hx rfl (hb hby d5_47) ?_
    show Steps p.tables e below (T10.setTop (mkF m 48 #[.val (.ref a1)] [(.int (1 : Int32)), (.int (2 : Int32)), (.ref a1)])) _
    refine XS.iadd X10.here hx rfl (hb hby d5_48) rfl ?_
    show Steps p.tables e below (T10.setTop (mkF m 49 #[.val (.ref a1)] [(.int (3 : Int32)), (.ref a1)])) _
    refine st12 _ ?_
    show Steps p.tables e below (T12.setTop (mkF m 52 #[.val (.ref a1)] [])) _
    exact X12.returnOut hx Bd.returns (hb hby d5_52) hr
  · show Qrm5_2 Z a1 b kA y0 y1 y2 y3 y4 y5 y6 y7 h0 n0 _ T12.heap _
    rw [e12]
    exact ⟨rfl, N12, (((Keep.refl h0 [a1, b]).wr W7 (Or.inl (List.mem_of_getElem? (i := 1) rfl))).wr W12 (Or.inl (List.mem_of_getElem? (i := 0) rfl))), f14, Fw12, f16, f17⟩
theorem ef_rm5_3 (m : MethodId) (x0 : Addr) : entryFrame m #[(.ref x0)] 1 = mkF m 0 #[.val (.ref x0)] [] := by first | (simp [entryFrame, mkF, argsToLocals, Value.category]; done) | rfl
def Qrm5_3 (Z : State) (a1 : Addr) (b : Addr) (kA : ClassId) (y0 y1 y2 y3 y4 y5 y6 y7 : Int32) (h0 : Heap) (n0 : Nat) (v : Option Value) (h : Heap) (L : List Loc) : Prop := v = none ∧ Fr n0 L ∧ Keep h0 h [a1, b] ∧ Exa Z h a1 "com/example/etape/etape/chart/EnclosureForest" ∧ Fld Z h a1 "com/example/etape/etape/chart/EnclosureForest" "size" "I" (.int (4 : Int32)) ∧ Fld Z h a1 "com/example/etape/etape/chart/EnclosureForest" "link" "[I" (.ref b) ∧ Arv Z h b kA .int (8 : Int32) [(.int y0), (.int y1), (.int y2), (.int (3 : Int32)), (.int y4), (.int y5), (.int y6), (.int y7)] (.int (0 : Int32))
set_option maxRecDepth 65536 in
set_option maxHeartbeats 40000000 in
theorem rm5_3 (l : Launch) (Z : State) (a0 : Array Value) (hw : ∀ d ∈ tables_1, d.before a0 Z = true) (ws : List Jvm.Cond) (a1 : Addr) (b : Addr) (kA : ClassId) (y0 y1 y2 y3 y4 y5 y6 y7 : Int32) (h0 : Heap) (n0 : Nat) (Z0 : n0 ≤ h0.size) (E_a1 : Exa Z h0 a1 "com/example/etape/etape/chart/EnclosureForest") (g_a1 : n0 ≤ a1) (g_b : n0 ≤ b) (hne : a1 ≠ b) (F_z : Fld Z h0 a1 "com/example/etape/etape/chart/EnclosureForest" "size" "I" (.int (3 : Int32))) (F_l : Fld Z h0 a1 "com/example/etape/etape/chart/EnclosureForest" "link" "[I" (.ref b)) (V_b : Arv Z h0 b kA .int (8 : Int32) [(.int y0), (.int y1), (.int y2), (.int y3), (.int y4), (.int y5), (.int y6), (.int y7)] (.int (0 : Int32))) :
    MetFree l (⟨"com/example/etape/etape/chart/EnclosureForest", "add", "()V"⟩ : MethodName) (head1 (Jvm.Cond.code (⟨"com/example/etape/etape/chart/EnclosureForest", "add", "()V"⟩ : MethodName) prog_24_method_2_code 1 none :: ws) ({ frames := 0, cells := 0, slots := 0, locals := 0 } : Room)) (fun a U => a = #[(.ref a1)] ∧ Z.Warmed39 U.vm ∧ U.heap = h0) (fun _ _ _ _ _ => True) (fun _ U o U' => ∃ v L, o = .returned v ∧ Qrm5_3 Z a1 b kA y0 y1 y2 y3 y4 y5 y6 y7 h0 n0 v U'.heap L ∧ FrameEnd U o U' L ({ frames := 0, cells := 0, slots := 0, locals := 0 } : Room).cells ({ frames := 0, cells := 0, slots := 0, locals := 0 } : Room).slots) := by
  refine MetFree.of_bodySF (plainFor_of_name pn_com_example_etape_etape_chart_EnclosureForest) hisR ?_
  intro p e s m args below meth c s₁ Bd hml0 hP hK
  obtain ⟨rfl, hZ, hh⟩ := hP
  have hx := Bd.exec
  have hby := Bd.bytes
  have hml : c.maxLocals = 1 := hml0
  have hown : s.vm.findClass "com/example/etape/etape/chart/EnclosureForest" = some m.cls := findClass_of_methodNamed Bd.named
  have hnm := (name_of_methodNamed Bd.named Bd.method).1
  have X0 : Stand p l e ({ frames := 0, cells := 0, slots := 0, locals := 0 } : Room) s m #[(.ref a1)] below meth c s₁ [] 0 0 := Stand.of_body Bd
  have e0 : s₁.heap = h0 := by rw [← hh, Bd.state]; rfl
  have N0 := Fr.nil n0
  have pre0 : ∀ t, Steps p.tables e below (s₁.setTop (mkF m 0 #[.val (.ref a1)] [])) t → Steps p.tables e below (s₁.setTop (entryFrame m #[(.ref a1)] 1)) t := fun t k => castTop (ef_rm5_3 m a1) k
  obtain ⟨T1, X1, e1, st1⟩ := getF X0 hx hZ hown (host := "") (Or.inl (hw _ (List.mem_of_getElem? (i := 24) rfl))) Via.refl e0 F_z (g := (mkF m 1 #[.val (.ref a1)] [(.ref a1)])) rfl rfl (hb hby d5_1)
  obtain ⟨T2, X2, e2, st2⟩ := getF X1 hx hZ hown (host := "") (Or.inl (hw _ (List.mem_of_getElem? (i := 17) rfl))) Via.refl e1 F_l (g := (mkF m 5 #[.val (.ref a1)] [(.ref a1), (.int (3 : Int32))])) rfl rfl (hb hby d5_5)
  obtain ⟨cl0, Ar0, -, S0, M0, Hs0, -⟩ := (id V_b)
  obtain ⟨T3, X3, e3, st3⟩ := getF X2 hx hZ hown (host := "") (Or.inl (hw _ (List.mem_of_getElem? (i := 17) rfl))) Via.refl e2 F_l (g := (mkF m 30 #[.val (.ref a1)] [(.ref a1)])) rfl rfl (hb hby d5_30)
  obtain ⟨T4, X4, e4, st4⟩ := getF X3 hx hZ hown (host := "") (Or.inl (hw _ (List.mem_of_getElem? (i := 24) rfl))) Via.refl e3 F_z (g := (mkF m 34 #[.val (.ref a1)] [(.ref a1), (.ref b)])) rfl rfl (hb hby d5_34)
  obtain ⟨T5, X5, e5, st5⟩ := getF X4 hx hZ hown (host := "") (Or.inl (hw _ (List.mem_of_getElem? (i := 24) rfl))) Via.refl e4 F_z (g := (mkF m 38 #[.val (.ref a1)] [(.ref a1), (.int (3 : Int32)), (.ref b)])) rfl rfl (hb hby d5_38)
  obtain ⟨cl6, Ar6, q6, S6, M6, Hs6, G6⟩ := V_b
  have hin6 : ¬ ((3 : Int32) < 0 ∨ cl6.slots.size ≤ ((3 : Int32)).toNatClampNeg) := inb_of S6 ⟨by decide, by decide⟩
  obtain ⟨T7, h7, X7, e7, W7, st7⟩ := stI X5 hx hZ e5 Ar6 (j := (3 : Int32)) hin6 (g := (mkF m 41 #[.val (.ref a1)] [(.int (3 : Int32)), (.int (3 : Int32)), (.ref b)])) rfl rfl (hb hby d5_41)
  have Z8 : n0 ≤ h7.size := Nat.le_trans Z0 (Keep.of_wr W7).1
  have V7 := Arv.set Ar6 q6 S6 M6 Hs6 G6 rfl W7 3 rfl (Nat.le_of_ble_eq_true rfl)
  have N7 := Fr.snoc X7 N0 g_b
  have f9 := F_z.other W7 (Or.inl hne)
  obtain ⟨T10, X10, e10, st10⟩ := getF X7 hx hZ hown (host := "") (Or.inl (hw _ (List.mem_of_getElem? (i := 24) rfl))) Via.refl e7 f9 (g := (mkF m 44 #[.val (.ref a1)] [(.ref a1), (.ref a1)])) rfl rfl (hb hby d5_44)
  have f11 := E_a1.wr W7
  obtain ⟨T12, h12, X12, e12, W12, st12⟩ := putF X10 hx hZ hown (host := "") (Or.inl (hw _ (List.mem_of_getElem? (i := 24) rfl))) Via.refl e10 f9 f11 (Or.inl (hw _ (List.mem_of_getElem? (i := 25) rfl))) (hw _ (List.mem_of_getElem? (i := 9) rfl)) (ty := .int) (by decide) rfl rfl (g := (mkF m 49 #[.val (.ref a1)] [(.int (4 : Int32)), (.ref a1)])) rfl rfl (hb hby d5_49)
  have Z13 : n0 ≤ h12.size := Nat.le_trans Z8 (Keep.of_wr W12).1
  have Fw12 := f9.same W12
  have N12 := Fr.snoc X12 N7 g_a1
  have f14 := f11.wr W12
  have f15 := F_l.other W7 (Or.inl hne)
  have f16 := f15.other W12 (Or.inr (slot_ne (Or.inl (hw _ (List.mem_of_getElem? (i := 18) rfl))) (Or.inl (hw _ (List.mem_of_getElem? (i := 25) rfl))) (by decide) (t := (.array .int)) (t' := .int) (by decide) (by decide)))
  have f17 := V7.other W12 (Ne.symm hne)
  obtain ⟨fs, hr, hrun, hended, hW, hsame⟩ := X12.leave (v := none) (fun _ => rfl)
  refine ⟨_, _, pre0 _ ?_, hrun, hended, _, _, rfl, ?_, ⟨_, rfl⟩, hW, hsame.mono (by decide) (by decide)⟩
  · show Steps p.tables e below (s₁.setTop (mkF m 0 #[.val (.ref a1)] [])) _
    refine XS.aloadN X0.here hx rfl (hb hby d5_0) rfl rfl ?_
    show Steps p.tables e below (s₁.setTop (mkF m 1 #[.val (.ref a1)] [(.ref a1)])) _
    refine st1 _ ?_
    show Steps p.tables e below (T1.setTop (mkF m 4 #[.val (.ref a1)] [(.int (3 : Int32))])) _
    refine XS.aloadN X1.here hx rfl (hb hby d5_4) rfl rfl ?_
    show Steps p.tables e below (T1.setTop (mkF m 5 #[.val (.ref a1)] [(.ref a1), (.int (3 : Int32))])) _
    refine st2 _ ?_
    show Steps p.tables e below (T2.setTop (mkF m 8 #[.val (.ref a1)] [(.ref b), (.int (3 : Int32))])) _
    refine X2.arraylength hx (cell := cl0) (by rw [e2]; exact Ar0.1) (State.isArrayOf_alike hZ.alike Ar0.2.1) (g := (mkF m 8 #[.val (.ref a1)] [(.ref b), (.int (3 : Int32))])) rfl (rest := [(.int (3 : Int32))]) rfl (hb hby d5_8) _ ?_
    rw [len_of S0 M0]
    show Steps p.tables e below (T2.setTop (mkF m 9 #[.val (.ref a1)] [(.int (8 : Int32)), (.int (3 : Int32))])) _
    refine XS.icmpYes X2.here hx rfl (pc0 := 9) (pc' := 29) rfl (hb hby d5_9) rfl (feq (by decide : ¬ ((3 : Int32) = (8 : Int32)))).2 (by decide) (by decide) ?_
    show Steps p.tables e below (T2.setTop (mkF m 29 #[.val (.ref a1)] [])) _
    refine XS.aloadN X2.here hx rfl (hb hby d5_29) rfl rfl ?_
    show Steps p.tables e below (T2.setTop (mkF m 30 #[.val (.ref a1)] [(.ref a1)])) _
    refine st3 _ ?_
    show Steps p.tables e below (T3.setTop (mkF m 33 #[.val (.ref a1)] [(.ref b)])) _
    refine XS.aloadN X3.here hx rfl (hb hby d5_33) rfl rfl ?_
    show Steps p.tables e below (T3.setTop (mkF m 34 #[.val (.ref a1)] [(.ref a1), (.ref b)])) _
    refine st4 _ ?_
    show Steps p.tables e below (T4.setTop (mkF m 37 #[.val (.ref a1)] [(.int (3 : Int32)), (.ref b)])) _
    refine XS.aloadN X4.here hx rfl (hb hby d5_37) rfl rfl ?_
    show Steps p.tables e below (T4.setTop (mkF m 38 #[.val (.ref a1)] [(.ref a1), (.int (3 : Int32)), (.ref b)])) _
    refine st5 _ ?_
    show Steps p.tables e below (T5.setTop (mkF m 41 #[.val (.ref a1)] [(.int (3 : Int32)), (.int (3 : Int32)), (.ref b)])) _
    refine st7 _ ?_
    show Steps p.tables e below (T7.setTop (mkF m 42 #[.val (.ref a1)] [])) _
    refine XS.aloadN X7.here hx rfl (hb hby d5_42) rfl rfl ?_
    show Steps p.tables e below (T7.setTop (mkF m 43 #[.val (.ref a1)] [(.ref a1)])) _
    refine XS.dup X7.here hx rfl (hb hby d5_43) rfl rfl ?_
    show Steps p.tables e below (T7.setTop (mkF m 44 #[.val (.ref a1)] [(.ref a1), (.ref a1)])) _
    refine st10 _ ?_
    show Steps p.tables e below (T10.setTop (mkF m 47 #[.val (.ref a1)] [(.int (3 : Int32)), (.ref a1)])) _
    refine XS.iconst X10.here hx rfl (hb hby d5_47) ?_
    show Steps p.tables e below (T10.setTop (mkF m 48 #[.val (.ref a1)] [(.int (1 : Int32)), (.int (3 : Int32)), (.ref a1)])) _
    refine XS.iadd X10.here hx rfl (hb hby d5_48) rfl ?_
    show Steps p.tables e below (T10.setTop (mkF m 49 #[.val (.ref a1)] [(.int (4 : Int32)), (.ref a1)])) _
    refine st12 _ ?_
    show Steps p.tables e below (T12.setTop (mkF m 52 #[.val (.ref a1)] [])) _
    exact X12.returnOut hx Bd.returns (hb hby d5_52) hr
  · show Qrm5_3 Z a1 b kA y0 y1 y2 y3 y4 y5 y6 y7 h0 n0 _ T12.heap _
    rw [e12]
    exact ⟨rfl, N12, (((Keep.refl h0 [a1, b]).wr W7 (Or.inl (List.mem_of_getElem? (i := 1) rfl))).wr W12 (Or.inl (List.mem_of_getElem? (i := 0) rfl))), f14, Fw12, f16, f17⟩
theorem d6_0 : decode prog_24_method_4_code 0 = .ok (.aload_n 0, 1) := by decide +kernel
theorem d6_1 : decode prog_24_method_4_code 1 = .ok (.getfield 7, 3) := by decide +kernel
theorem d6_4 : decode prog_24_method_4_code 4 = .ok (.iload_n 1, 1) := by decide +kernel
theorem d6_5 : decode prog_24_method_4_code 5 = .ok (.iload_n 2, 1) := by decide +kernel
theorem d6_6 : decode prog_24_method_4_code 6 = .ok (.iastore, 1) := by decide +kernel
theorem d6_7 : decode prog_24_method_4_code 7 = .ok (.return_, 1) := by decide +kernel
theorem ef_rm6_0 (m : MethodId) (x0 : Addr) (x1 : Int32) (x2 : Int32) : entryFrame m #[(.ref x0), (.int x1), (.int x2)] 3 = mkF m 0 #[.val (.ref x0), .val (.int x1), .val (.int x2)] [] := by first | (simp [entryFrame, mkF, argsToLocals, Value.category]; done) | rfl
def Qrm6_0 (Z : State) (a1 : Addr) (p3 : Int32) (b : Addr) (kA : ClassId) (y0 y1 y2 y3 y4 y5 y6 y7 : Int32) (h0 : Heap) (n0 : Nat) (v : Option Value) (h : Heap) (L : List Loc) : Prop := v = none ∧ Fr n0 L ∧ Keep h0 h [b] ∧ Exa Z h a1 "com/example/etape/etape/chart/EnclosureForest" ∧ Fld Z h a1 "com/example/etape/etape/chart/EnclosureForest" "link" "[I" (.ref b) ∧ Arv Z h b kA .int (8 : Int32) [(.int p3), (.int y1), (.int y2), (.int y3), (.int y4), (.int y5), (.int y6), (.int y7)] (.int (0 : Int32))
set_option maxRecDepth 65536 in
set_option maxHeartbeats 40000000 in
theorem rm6_0 (l : Launch) (Z : State) (a0 : Array Value) (hw : ∀ d ∈ tables_1, d.before a0 Z = true) (ws : List Jvm.Cond) (a1 : Addr) (p3 : Int32) (b : Addr) (kA : ClassId) (y0 y1 y2 y3 y4 y5 y6 y7 : Int32) (h0 : Heap) (n0 : Nat) (Z0 : n0 ≤ h0.size) (E_a1 : Exa Z h0 a1 "com/example/etape/etape/chart/EnclosureForest") (g_b : n0 ≤ b) (hne : a1 ≠ b) (F_l : Fld Z h0 a1 "com/example/etape/etape/chart/EnclosureForest" "link" "[I" (.ref b)) (V_b : Arv Z h0 b kA .int (8 : Int32) [(.int y0), (.int y1), (.int y2), (.int y3), (.int y4), (.int y5), (.int y6), (.int y7)] (.int (0 : Int32))) :
    MetFree l (⟨"com/example/etape/etape/chart/EnclosureForest", "enclose", "(II)V"⟩ : MethodName) (head1 (Jvm.Cond.code (⟨"com/example/etape/etape/chart/EnclosureForest", "enclose", "(II)V"⟩ : MethodName) prog_24_method_4_code 3 none :: ws) ({ frames := 0, cells := 0, slots := 0, locals := 0 } : Room)) (fun a U => a = #[(.ref a1), (.int (0 : Int32)), (.int p3)] ∧ Z.Warmed39 U.vm ∧ U.heap = h0) (fun _ _ _ _ _ => True) (fun _ U o U' => ∃ v L, o = .returned v ∧ Qrm6_0 Z a1 p3 b kA y0 y1 y2 y3 y4 y5 y6 y7 h0 n0 v U'.heap L ∧ FrameEnd U o U' L ({ frames := 0, cells := 0, slots := 0, locals := 0 } : Room).cells ({ frames := 0, cells := 0, slots := 0, locals := 0 } : Room).slots) := by
  refine MetFree.of_bodySF (plainFor_of_name pn_com_example_etape_etape_chart_EnclosureForest) hisR ?_
  intro p e s m args below meth c s₁ Bd hml0 hP hK
  obtain ⟨rfl, hZ, hh⟩ := hP
  have hx := Bd.exec
  have hby := Bd.bytes
  have hml : c.maxLocals = 3 := hml0
  have hown : s.vm.findClass "com/example/etape/etape/chart/EnclosureForest" = some m.cls := findClass_of_methodNamed Bd.named
  have hnm := (name_of_methodNamed Bd.named Bd.method).1
  have X0 : Stand p l e ({ frames := 0, cells := 0, slots := 0, locals := 0 } : Room) s m #[(.ref a1), (.int (0 : Int32)), (.int p3)] below meth c s₁ [] 0 0 := Stand.of_body Bd
  have e0 : s₁.heap = h0 := by rw [← hh, Bd.state]; rfl
  have N0 := Fr.nil n0
  have pre0 : ∀ t, Steps p.tables e below (s₁.setTop (mkF m 0 #[.val (.ref a1), .val (.int (0 : Int32)), .val (.int p3)] [])) t → Steps p.tables e below (s₁.setTop (entryFrame m #[(.ref a1), (.int (0 : Int32)), (.int p3)] 3)) t := fun t k => castTop (ef_rm6_0 m a1 (0 : Int32) p3) k
  obtain ⟨T1, X1, e1, st1⟩ := getF X0 hx hZ hown (host := "") (Or.inl (hw _ (List.mem_of_getElem? (i := 17) rfl))) Via.refl e0 F_l (g := (mkF m 1 #[.val (.ref a1), .val (.int (0 : Int32)), .val (.int p3)] [(.ref a1)])) rfl rfl (hb hby d6_1)
  obtain ⟨cl2, Ar2, q2, S2, M2, Hs2, G2⟩ := V_b
  have hin2 : ¬ ((0 : Int32) < 0 ∨ cl2.slots.size ≤ ((0 : Int32)).toNatClampNeg) := inb_of S2 ⟨by decide, by decide⟩
  obtain ⟨T3, h3, X3, e3, W3, st3⟩ := stI X1 hx hZ e1 Ar2 (j := (0 : Int32)) hin2 (g := (mkF m 6 #[.val (.ref a1), .val (.int (0 : Int32)), .val (.int p3)] [(.int p3), (.int (0 : Int32)), (.ref b)])) rfl rfl (hb hby d6_6)
  have Z4 : n0 ≤ h3.size := Nat.le_trans Z0 (Keep.of_wr W3).1
  have V3 := Arv.set Ar2 q2 S2 M2 Hs2 G2 rfl W3 0 rfl (Nat.le_of_ble_eq_true rfl)
  have N3 := Fr.snoc X3 N0 g_b
  have f5 := E_a1.wr W3
  have f6 := F_l.other W3 (Or.inl hne)
  obtain ⟨fs, hr, hrun, hended, hW, hsame⟩ := X3.leave (v := none) (fun _ => rfl)
  refine ⟨_, _, pre0 _ ?_, hrun, hended, _, _, rfl, ?_, ⟨_, rfl⟩, hW, hsame.mono (by decide) (by decide)⟩
  · show Steps p.tables e below (s₁.setTop (mkF m 0 #[.val (.ref a1), .val (.int (0 : Int32)), .val (.int p3)] [])) _
    refine XS.aloadN X0.here hx rfl (hb hby d6_0) rfl rfl ?_
    show Steps p.tables e below (s₁.setTop (mkF m 1 #[.val (.ref a1), .val (.int (0 : Int32)), .val (.int p3)] [(.ref a1)])) _
    refine st1 _ ?_
    show Steps p.tables e below (T1.setTop (mkF m 4 #[.val (.ref a1), .val (.int (0 : Int32)), .val (.int p3)] [(.ref b)])) _
    refine XS.iloadN X1.here hx rfl (hb hby d6_4) rfl ?_
    show Steps p.tables e below (T1.setTop (mkF m 5 #[.val (.ref a1), .val (.int (0 : Int32)), .val (.int p3)] [(.int (0 : Int32)), (.ref b)])) _
    refine XS.iloadN X1.here hx rfl (hb hby d6_5) rfl ?_
    show Steps p.tables e below (T1.setTop (mkF m 6 #[.val (.ref a1), .val (.int (0 : Int32)), .val (.int p3)] [(.int p3), (.int (0 : Int32)), (.ref b)])) _
    refine st3 _ ?_
    show Steps p.tables e below (T3.setTop (mkF m 7 #[.val (.ref a1), .val (.int (0 : Int32)), .val (.int p3)] [])) _
    exact X3.returnOut hx Bd.returns (hb hby d6_7) hr
  · show Qrm6_0 Z a1 p3 b kA y0 y1 y2 y3 y4 y5 y6 y7 h0 n0 _ T3.heap _
    rw [e3]
    exact ⟨rfl, N3, ((Keep.refl h0 [b]).wr W3 (Or.inl (List.mem_of_getElem? (i := 0) rfl))), f5, f6, V3⟩
theorem ef_rm6_1 (m : MethodId) (x0 : Addr) (x1 : Int32) (x2 : Int32) : entryFrame m #[(.ref x0), (.int x1), (.int x2)] 3 = mkF m 0 #[.val (.ref x0), .val (.int x1), .val (.int x2)] [] := by first | (simp [entryFrame, mkF, argsToLocals, Value.category]; done) | rfl
def Qrm6_1 (Z : State) (a1 : Addr) (p3 : Int32) (b : Addr) (kA : ClassId) (y0 y1 y2 y3 y4 y5 y6 y7 : Int32) (h0 : Heap) (n0 : Nat) (v : Option Value) (h : Heap) (L : List Loc) : Prop := v = none ∧ Fr n0 L ∧ Keep h0 h [b] ∧ Exa Z h a1 "com/example/etape/etape/chart/EnclosureForest" ∧ Fld Z h a1 "com/example/etape/etape/chart/EnclosureForest" "link" "[I" (.ref b) ∧ Arv Z h b kA .int (8 : Int32) [(.int y0), (.int p3), (.int y2), (.int y3), (.int y4), (.int y5), (.int y6), (.int y7)] (.int (0 : Int32))
set_option maxRecDepth 65536 in
set_option maxHeartbeats 40000000 in
theorem rm6_1 (l : Launch) (Z : State) (a0 : Array Value) (hw : ∀ d ∈ tables_1, d.before a0 Z = true) (ws : List Jvm.Cond) (a1 : Addr) (p3 : Int32) (b : Addr) (kA : ClassId) (y0 y1 y2 y3 y4 y5 y6 y7 : Int32) (h0 : Heap) (n0 : Nat) (Z0 : n0 ≤ h0.size) (E_a1 : Exa Z h0 a1 "com/example/etape/etape/chart/EnclosureForest") (g_b : n0 ≤ b) (hne : a1 ≠ b) (F_l : Fld Z h0 a1 "com/example/etape/etape/chart/EnclosureForest" "link" "[I" (.ref b)) (V_b : Arv Z h0 b kA .int (8 : Int32) [(.int y0), (.int y1), (.int y2), (.int y3), (.int y4), (.int y5), (.int y6), (.int y7)] (.int (0 : Int32))) :
    MetFree l (⟨"com/example/etape/etape/chart/EnclosureForest", "enclose", "(II)V"⟩ : MethodName) (head1 (Jvm.Cond.code (⟨"com/example/etape/etape/chart/EnclosureForest", "enclose", "(II)V"⟩ : MethodName) prog_24_method_4_code 3 none :: ws) ({ frames := 0, cells := 0, slots := 0, locals := 0 } : Room)) (fun a U => a = #[(.ref a1), (.int (1 : Int32)), (.int p3)] ∧ Z.Warmed39 U.vm ∧ U.heap = h0) (fun _ _ _ _ _ => True) (fun _ U o U' => ∃ v L, o = .returned v ∧ Qrm6_1 Z a1 p3 b kA y0 y1 y2 y3 y4 y5 y6 y7 h0 n0 v U'.heap L ∧ FrameEnd U o U' L ({ frames := 0, cells := 0, slots := 0, locals := 0 } : Room).cells ({ frames := 0, cells := 0, slots := 0, locals := 0 } : Room).slots) := by
  refine MetFree.of_bodySF (plainFor_of_name pn_com_example_etape_etape_chart_EnclosureForest) hisR ?_
  intro p e s m args below meth c s₁ Bd hml0 hP hK
  obtain ⟨rfl, hZ, hh⟩ := hP
  have hx := Bd.exec
  have hby := Bd.bytes
  have hml : c.maxLocals = 3 := hml0
  have hown : s.vm.findClass "com/example/etape/etape/chart/EnclosureForest" = some m.cls := findClass_of_methodNamed Bd.named
  have hnm := (name_of_methodNamed Bd.named Bd.method).1
  have X0 : Stand p l e ({ frames := 0, cells := 0, slots := 0, locals := 0 } : Room) s m #[(.ref a1), (.int (1 : Int32)), (.int p3)] below meth c s₁ [] 0 0 := Stand.of_body Bd
  have e0 : s₁.heap = h0 := by rw [← hh, Bd.state]; rfl
  have N0 := Fr.nil n0
  have pre0 : ∀ t, Steps p.tables e below (s₁.setTop (mkF m 0 #[.val (.ref a1), .val (.int (1 : Int32)), .val (.int p3)] [])) t → Steps p.tables e below (s₁.setTop (entryFrame m #[(.ref a1), (.int (1 : Int32)), (.int p3)] 3)) t := fun t k => castTop (ef_rm6_1 m a1 (1 : Int32) p3) k
  obtain ⟨T1, X1, e1, st1⟩ := getF X0 hx hZ hown (host := "") (Or.inl (hw _ (List.mem_of_getElem? (i := 17) rfl))) Via.refl e0 F_l (g := (mkF m 1 #[.val (.ref a1), .val (.int (1 : Int32)), .val (.int p3)] [(.ref a1)])) rfl rfl (hb hby d6_1)
  obtain ⟨cl2, Ar2, q2, S2, M2, Hs2, G2⟩ := V_b
  have hin2 : ¬ ((1 : Int32) < 0 ∨ cl2.slots.size ≤ ((1 : Int32)).toNatClampNeg) := inb_of S2 ⟨by decide, by decide⟩
  obtain ⟨T3, h3, X3, e3, W3, st3⟩ := stI X1 hx hZ e1 Ar2 (j := (1 : Int32)) hin2 (g := (mkF m 6 #[.val (.ref a1), .val (.int (1 : Int32)), .val (.int p3)] [(.int p3), (.int (1 : Int32)), (.ref b)])) rfl rfl (hb hby d6_6)
  have Z4 : n0 ≤ h3.size := Nat.le_trans Z0 (Keep.of_wr W3).1
  have V3 := Arv.set Ar2 q2 S2 M2 Hs2 G2 rfl W3 1 rfl (Nat.le_of_ble_eq_true rfl)
  have N3 := Fr.snoc X3 N0 g_b
  have f5 := E_a1.wr W3
  have f6 := F_l.other W3 (Or.inl hne)
  obtain ⟨fs, hr, hrun, hended, hW, hsame⟩ := X3.leave (v := none) (fun _ => rfl)
  refine ⟨_, _, pre0 _ ?_, hrun, hended, _, _, rfl, ?_, ⟨_, rfl⟩, hW, hsame.mono (by decide) (by decide)⟩
  · show Steps p.tables e below (s₁.setTop (mkF m 0 #[.val (.ref a1), .val (.int (1 : Int32)), .val (.int p3)] [])) _
    refine XS.aloadN X0.here hx rfl (hb hby d6_0) rfl rfl ?_
    show Steps p.tables e below (s₁.setTop (mkF m 1 #[.val (.ref a1), .val (.int (1 : Int32)), .val (.int p3)] [(.ref a1)])) _
    refine st1 _ ?_
    show Steps p.tables e below (T1.setTop (mkF m 4 #[.val (.ref a1), .val (.int (1 : Int32)), .val (.int p3)] [(.ref b)])) _
    refine XS.iloadN X1.here hx rfl (hb hby d6_4) rfl ?_
    show Steps p.tables e below (T1.setTop (mkF m 5 #[.val (.ref a1), .val (.int (1 : Int32)), .val (.int p3)] [(.int (1 : Int32)), (.ref b)])) _
    refine XS.iloadN X1.here hx rfl (hb hby d6_5) rfl ?_
    show Steps p.tables e below (T1.setTop (mkF m 6 #[.val (.ref a1), .val (.int (1 : Int32)), .val (.int p3)] [(.int p3), (.int (1 : Int32)), (.ref b)])) _
    refine st3 _ ?_
    show Steps p.tables e below (T3.setTop (mkF m 7 #[.val (.ref a1), .val (.int (1 : Int32)), .val (.int p3)] [])) _
    exact X3.returnOut hx Bd.returns (hb hby d6_7) hr
  · show Qrm6_1 Z a1 p3 b kA y0 y1 y2 y3 y4 y5 y6 y7 h0 n0 _ T3.heap _
    rw [e3]
    exact ⟨rfl, N3, ((Keep.refl h0 [b]).wr W3 (Or.inl (List.mem_of_getElem? (i := 0) rfl))), f5, f6, V3⟩
theorem ef_rm6_2 (m : MethodId) (x0 : Addr) (x1 : Int32) (x2 : Int32) : entryFrame m #[(.ref x0), (.int x1), (.int x2)] 3 = mkF m 0 #[.val (.ref x0), .val (.int x1), .val (.int x2)] [] := by first | (simp [entryFrame, mkF, argsToLocals, Value.category]; done) | rfl
def Qrm6_2 (Z : State) (a1 : Addr) (p3 : Int32) (b : Addr) (kA : ClassId) (y0 y1 y2 y3 y4 y5 y6 y7 : Int32) (h0 : Heap) (n0 : Nat) (v : Option Value) (h : Heap) (L : List Loc) : Prop := v = none ∧ Fr n0 L ∧ Keep h0 h [b] ∧ Exa Z h a1 "com/example/etape/etape/chart/EnclosureForest" ∧ Fld Z h a1 "com/example/etape/etape/chart/EnclosureForest" "link" "[I" (.ref b) ∧ Arv Z h b kA .int (8 : Int32) [(.int y0), (.int y1), (.int p3), (.int y3), (.int y4), (.int y5), (.int y6), (.int y7)] (.int (0 : Int32))
set_option maxRecDepth 65536 in
set_option maxHeartbeats 40000000 in
theorem rm6_2 (l : Launch) (Z : State) (a0 : Array Value) (hw : ∀ d ∈ tables_1, d.before a0 Z = true) (ws : List Jvm.Cond) (a1 : Addr) (p3 : Int32) (b : Addr) (kA : ClassId) (y0 y1 y2 y3 y4 y5 y6 y7 : Int32) (h0 : Heap) (n0 : Nat) (Z0 : n0 ≤ h0.size) (E_a1 : Exa Z h0 a1 "com/example/etape/etape/chart/EnclosureForest") (g_b : n0 ≤ b) (hne : a1 ≠ b) (F_l : Fld Z h0 a1 "com/example/etape/etape/chart/EnclosureForest" "link" "[I" (.ref b)) (V_b : Arv Z h0 b kA .int (8 : Int32) [(.int y0), (.int y1), (.int y2), (.int y3), (.int y4), (.int y5), (.int y6), (.int y7)] (.int (0 : Int32))) :
    MetFree l (⟨"com/example/etape/etape/chart/EnclosureForest", "enclose", "(II)V"⟩ : MethodName) (head1 (Jvm.Cond.code (⟨"com/example/etape/etape/chart/EnclosureForest", "enclose", "(II)V"⟩ : MethodName) prog_24_method_4_code 3 none :: ws) ({ frames := 0, cells := 0, slots := 0, locals := 0 } : Room)) (fun a U => a = #[(.ref a1), (.int (2 : Int32)), (.int p3)] ∧ Z.Warmed39 U.vm ∧ U.heap = h0) (fun _ _ _ _ _ => True) (fun _ U o U' => ∃ v L, o = .returned v ∧ Qrm6_2 Z a1 p3 b kA y0 y1 y2 y3 y4 y5 y6 y7 h0 n0 v U'.heap L ∧ FrameEnd U o U' L ({ frames := 0, cells := 0, slots := 0, locals := 0 } : Room).cells ({ frames := 0, cells := 0, slots := 0, locals := 0 } : Room).slots) := by
  refine MetFree.of_bodySF (plainFor_of_name pn_com_example_etape_etape_chart_EnclosureForest) hisR ?_
  intro p e s m args below meth c s₁ Bd hml0 hP hK
  obtain ⟨rfl, hZ, hh⟩ := hP
  have hx := Bd.exec
  have hby := Bd.bytes
  have hml : c.maxLocals = 3 := hml0
  have hown : s.vm.findClass "com/example/etape/etape/chart/EnclosureForest" = some m.cls := findClass_of_methodNamed Bd.named
  have hnm := (name_of_methodNamed Bd.named Bd.method).1
  have X0 : Stand p l e ({ frames := 0, cells := 0, slots := 0, locals := 0 } : Room) s m #[(.ref a1), (.int (2 : Int32)), (.int p3)] below meth c s₁ [] 0 0 := Stand.of_body Bd
  have e0 : s₁.heap = h0 := by rw [← hh, Bd.state]; rfl
  have N0 := Fr.nil n0
  have pre0 : ∀ t, Steps p.tables e below (s₁.setTop (mkF m 0 #[.val (.ref a1), .val (.int (2 : Int32)), .val (.int p3)] [])) t → Steps p.tables e below (s₁.setTop (entryFrame m #[(.ref a1), (.int (2 : Int32)), (.int p3)] 3)) t := fun t k => castTop (ef_rm6_2 m a1 (2 : Int32) p3) k
  obtain ⟨T1, X1, e1, st1⟩ := getF X0 hx hZ hown (host := "") (Or.inl (hw _ (List.mem_of_getElem? (i := 17) rfl))) Via.refl e0 F_l (g := (mkF m 1 #[.val (.ref a1), .val (.int (2 : Int32)), .val (.int p3)] [(.ref a1)])) rfl rfl (hb hby d6_1)
  obtain ⟨cl2, Ar2, q2, S2, M2, Hs2, G2⟩ := V_b
  have hin2 : ¬ ((2 : Int32) < 0 ∨ cl2.slots.size ≤ ((2 : Int32)).toNatClampNeg) := inb_of S2 ⟨by decide, by decide⟩
  obtain ⟨T3, h3, X3, e3, W3, st3⟩ := stI X1 hx hZ e1 Ar2 (j := (2 : Int32)) hin2 (g := (mkF m 6 #[.val (.ref a1), .val (.int (2 : Int32)), .val (.int p3)] [(.int p3), (.int (2 : Int32)), (.ref b)])) rfl rfl (hb hby d6_6)
  have Z4 : n0 ≤ h3.size := Nat.le_trans Z0 (Keep.of_wr W3).1
  have V3 := Arv.set Ar2 q2 S2 M2 Hs2 G2 rfl W3 2 rfl (Nat.le_of_ble_eq_true rfl)
  have N3 := Fr.snoc X3 N0 g_b
  have f5 := E_a1.wr W3
  have f6 := F_l.other W3 (Or.inl hne)
  obtain ⟨fs, hr, hrun, hended, hW, hsame⟩ := X3.leave (v := none) (fun _ => rfl)
  refine ⟨_, _, pre0 _ ?_, hrun, hended, _, _, rfl, ?_, ⟨_, rfl⟩, hW, hsame.mono (by decide) (by decide)⟩
  · show Steps p.tables e below (s₁.setTop (mkF m 0 #[.val (.ref a1), .val (.int (2 : Int32)), .val (.int p3)] [])) _
    refine XS.aloadN X0.here hx rfl (hb hby d6_0) rfl rfl ?_
    show Steps p.tables e below (s₁.setTop (mkF m 1 #[.val (.ref a1), .val (.int (2 : Int32)), .val (.int p3)] [(.ref a1)])) _
    refine st1 _ ?_
    show Steps p.tables e below (T1.setTop (mkF m 4 #[.val (.ref a1), .val (.int (2 : Int32)), .val (.int p3)] [(.ref b)])) _
    refine XS.iloadN X1.here hx rfl (hb hby d6_4) rfl ?_
    show Steps p.tables e below (T1.setTop (mkF m 5 #[.val (.ref a1), .val (.int (2 : Int32)), .val (.int p3)] [(.int (2 : Int32)), (.ref b)])) _
    refine XS.iloadN X1.here hx rfl (hb hby d6_5) rfl ?_
    show Steps p.tables e below (T1.setTop (mkF m 6 #[.val (.ref a1), .val (.int (2 : Int32)), .val (.int p3)] [(.int p3), (.int (2 : Int32)), (.ref b)])) _
    refine st3 _ ?_
    show Steps p.tables e below (T3.setTop (mkF m 7 #[.val (.ref a1), .val (.int (2 : Int32)), .val (.int p3)] [])) _
    exact X3.returnOut hx Bd.returns (hb hby d6_7) hr
  · show Qrm6_2 Z a1 p3 b kA y0 y1 y2 y3 y4 y5 y6 y7 h0 n0 _ T3.heap _
    rw [e3]
    exact ⟨rfl, N3, ((Keep.refl h0 [b]).wr W3 (Or.inl (List.mem_of_getElem? (i := 0) rfl))), f5, f6, V3⟩
theorem ef_rm6_3 (m : MethodId) (x0 : Addr) (x1 : Int32) (x2 : Int32) : entryFrame m #[(.ref x0), (.int x1), (.int x2)] 3 = mkF m 0 #[.val (.ref x0), .val (.int x1), .val (.int x2)] [] := by first | (simp [entryFrame, mkF, argsToLocals, Value.category]; done) | rfl
def Qrm6_3 (Z : State) (a1 : Addr) (p3 : Int32) (b : Addr) (kA : ClassId) (y0 y1 y2 y3 y4 y5 y6 y7 : Int32) (h0 : Heap) (n0 : Nat) (v : Option Value) (h : Heap) (L : List Loc) : Prop := v = none ∧ Fr n0 L ∧ Keep h0 h [b] ∧ Exa Z h a1 "com/example/etape/etape/chart/EnclosureForest" ∧ Fld Z h a1 "com/example/etape/etape/chart/EnclosureForest" "link" "[I" (.ref b) ∧ Arv Z h b kA .int (8 : Int32) [(.int y0), (.int y1), (.int y2), (.int p3), (.int y4), (.int y5), (.int y6), (.int y7)] (.int (0 : Int32))
set_option maxRecDepth 65536 in
set_option maxHeartbeats 40000000 in
theorem rm6_3 (l : Launch) (Z : State) (a0 : Array Value) (hw : ∀ d ∈ tables_1, d.before a0 Z = true) (ws : List Jvm.Cond) (a1 : Addr) (p3 : Int32) (b : Addr) (kA : ClassId) (y0 y1 y2 y3 y4 y5 y6 y7 : Int32) (h0 : Heap) (n0 : Nat) (Z0 : n0 ≤ h0.size) (E_a1 : Exa Z h0 a1 "com/example/etape/etape/chart/EnclosureForest") (g_b : n0 ≤ b) (hne : a1 ≠ b) (F_l : Fld Z h0 a1 "com/example/etape/etape/chart/EnclosureForest" "link" "[I" (.ref b)) (V_b : Arv Z h0 b kA .int (8 : Int32) [(.int y0), (.int y1), (.int y2), (.int y3), (.int y4), (.int y5), (.int y6), (.int y7)] (.int (0 : Int32))) :
    MetFree l (⟨"com/example/etape/etape/chart/EnclosureForest", "enclose", "(II)V"⟩ : MethodName) (head1 (Jvm.Cond.code (⟨"com/example/etape/etape/chart/EnclosureForest", "enclose", "(II)V"⟩ : MethodName) prog_24_method_4_code 3 none :: ws) ({ frames := 0, cells := 0, slots := 0, locals := 0 } : Room)) (fun a U => a = #[(.ref a1), (.int (3 : Int32)), (.int p3)] ∧ Z.Warmed39 U.vm ∧ U.heap = h0) (fun _ _ _ _ _ => True) (fun _ U o U' => ∃ v L, o = .returned v ∧ Qrm6_3 Z a1 p3 b kA y0 y1 y2 y3 y4 y5 y6 y7 h0 n0 v U'.heap L ∧ FrameEnd U o U' L ({ frames := 0, cells := 0, slots := 0, locals := 0 } : Room).cells ({ frames := 0, cells := 0, slots := 0, locals := 0 } : Room).slots) := by
  refine MetFree.of_bodySF (plainFor_of_name pn_com_example_etape_etape_chart_EnclosureForest) hisR ?_
  intro p e s m args below meth c s₁ Bd hml0 hP hK
  obtain ⟨rfl, hZ, hh⟩ := hP
  have hx := Bd.exec
  have hby := Bd.bytes
  have hml : c.maxLocals = 3 := hml0
  have hown : s.vm.findClass "com/example/etape/etape/chart/EnclosureForest" = some m.cls := findClass_of_methodNamed Bd.named
  have hnm := (name_of_methodNamed Bd.named Bd.method).1
  have X0 : Stand p l e ({ frames := 0, cells := 0, slots := 0, locals := 0 } : Room) s m #[(.ref a1), (.int (3 : Int32)), (.int p3)] below meth c s₁ [] 0 0 := Stand.of_body Bd
  have e0 : s₁.heap = h0 := by rw [← hh, Bd.state]; rfl
  have N0 := Fr.nil n0
  have pre0 : ∀ t, Steps p.tables e below (s₁.setTop (mkF m 0 #[.val (.ref a1), .val (.int (3 : Int32)), .val (.int p3)] [])) t → Steps p.tables e below (s₁.setTop (entryFrame m #[(.ref a1), (.int (3 : Int32)), (.int p3)] 3)) t := fun t k => castTop (ef_rm6_3 m a1 (3 : Int32) p3) k
  obtain ⟨T1, X1, e1, st1⟩ := getF X0 hx hZ hown (host := "") (Or.inl (hw _ (List.mem_of_getElem? (i := 17) rfl))) Via.refl e0 F_l (g := (mkF m 1 #[.val (.ref a1), .val (.int (3 : Int32)), .val (.int p3)] [(.ref a1)])) rfl rfl (hb hby d6_1)
  obtain ⟨cl2, Ar2, q2, S2, M2, Hs2, G2⟩ := V_b
  have hin2 : ¬ ((3 : Int32) < 0 ∨ cl2.slots.size ≤ ((3 : Int32)).toNatClampNeg) := inb_of S2 ⟨by decide, by decide⟩
  obtain ⟨T3, h3, X3, e3, W3, st3⟩ := stI X1 hx hZ e1 Ar2 (j := (3 : Int32)) hin2 (g := (mkF m 6 #[.val (.ref a1), .val (.int (3 : Int32)), .val (.int p3)] [(.int p3), (.int (3 : Int32)), (.ref b)])) rfl rfl (hb hby d6_6)
  have Z4 : n0 ≤ h3.size := Nat.le_trans Z0 (Keep.of_wr W3).1
  have V3 := Arv.set Ar2 q2 S2 M2 Hs2 G2 rfl W3 3 rfl (Nat.le_of_ble_eq_true rfl)
  have N3 := Fr.snoc X3 N0 g_b
  have f5 := E_a1.wr W3
  have f6 := F_l.other W3 (Or.inl hne)
  obtain ⟨fs, hr, hrun, hended, hW, hsame⟩ := X3.leave (v := none) (fun _ => rfl)
  refine ⟨_, _, pre0 _ ?_, hrun, hended, _, _, rfl, ?_, ⟨_, rfl⟩, hW, hsame.mono (by decide) (by decide)⟩
  · show Steps p.tables e below (s₁.setTop (mkF m 0 #[.val (.ref a1), .val (.int (3 : Int32)), .val (.int p3)] [])) _
    refine XS.aloadN X0.here hx rfl (hb hby d6_0) rfl rfl ?_
    show Steps p.tables e below (s₁.setTop (mkF m 1 #[.val (.ref a1), .val (.int (3 : Int32)), .val (.int p3)] [(.ref a1)])) _
    refine st1 _ ?_
    show Steps p.tables e below (T1.setTop (mkF m 4 #[.val (.ref a1), .val (.int (3 : Int32)), .val (.int p3)] [(.ref b)])) _
    refine XS.iloadN X1.here hx rfl (hb hby d6_4) rfl ?_
    show Steps p.tables e below (T1.setTop (mkF m 5 #[.val (.ref a1), .val (.int (3 : Int32)), .val (.int p3)] [(.int (3 : Int32)), (.ref b)])) _
    refine XS.iloadN X1.here hx rfl (hb hby d6_5) rfl ?_
    show Steps p.tables e below (T1.setTop (mkF m 6 #[.val (.ref a1), .val (.int (3 : Int32)), .val (.int p3)] [(.int p3), (.int (3 : Int32)), (.ref b)])) _
    refine st3 _ ?_
    show Steps p.tables e below (T3.setTop (mkF m 7 #[.val (.ref a1), .val (.int (3 : Int32)), .val (.int p3)] [])) _
    exact X3.returnOut hx Bd.returns (hb hby d6_7) hr
  · show Qrm6_3 Z a1 p3 b kA y0 y1 y2 y3 y4 y5 y6 y7 h0 n0 _ T3.heap _
    rw [e3]
    exact ⟨rfl, N3, ((Keep.refl h0 [b]).wr W3 (Or.inl (List.mem_of_getElem? (i := 0) rfl))), f5, f6, V3⟩
theorem d7_2 : decode prog_24_method_3_code 2 = .ok (.aload_n 0, 1) := by decide +kernel
theorem d7_3 : decode prog_24_method_3_code 3 = .ok (.getfield 7, 3) := by decide +kernel
theorem d7_6 : decode prog_24_method_3_code 6 = .ok (.iload_n 2, 1) := by decide +kernel
theorem d7_7 : decode prog_24_method_3_code 7 = .ok (.iaload, 1) := by decide +kernel
theorem d7_8 : decode prog_24_method_3_code 8 = .ok (.iload_n 2, 1) := by decide +kernel
theorem d7_9 : decode prog_24_method_3_code 9 = .ok (.if_icmp .eq 30, 3) := by decide +kernel
set_option maxRecDepth 65536 in
set_option maxHeartbeats 40000000 in
theorem own_lv {p : Program} {l : Launch} {e : Env} {s : State} {m : MethodId} {args : Array Value} {below : List Frame} {meth : Method} {c : Code} {T0 : State} {locs : List Loc} {Z : State} {a0 : Array Value} {h0 : Heap} {n0 : Nat} {cells slots : Nat} {R : Room} (a1 : Addr) (i1 : Int32) (b : Addr) (kA : ClassId) (x l0 l1 l2 l3 : Nat)
    (X0 : Stand p l e R s m args below meth c T0 locs cells slots) (hx : p.tables.exec = Jvm.exec) (hZ : Z.Warmed39 s.vm) (hw : ∀ d ∈ tables_1, d.before a0 Z = true) (hby : c.code = prog_24_method_3_code) (hml : c.maxLocals = 3) (hown : s.vm.findClass "com/example/etape/etape/chart/EnclosureForest" = some m.cls) (e0 : T0.heap = h0) (Z0 : n0 ≤ h0.size) (N0 : Fr n0 locs) (hx4 : x < 4) (hL : ∀ j, j < 4 → own_sel l0 l1 l2 l3 j < 4) (E_a1 : Exa Z h0 a1 "com/example/etape/etape/chart/EnclosureForest") (F_l : Fld Z h0 a1 "com/example/etape/etape/chart/EnclosureForest" "link" "[I" (.ref b)) (V_b : Arv Z h0 b kA .int (8 : Int32) [(.int (Int32.ofNat l0)), (.int (Int32.ofNat l1)), (.int (Int32.ofNat l2)), (.int (Int32.ofNat l3)), (.int (0 : Int32)), (.int (0 : Int32)), (.int (0 : Int32)), (.int (0 : Int32))] (.int (0 : Int32))) (hne : a1 ≠ b) (g_b : n0 ≤ b) (hc : (Int32.ofNat (own_sel l0 l1 l2 l3 x)) = (Int32.ofNat x)) :
    ∃ (T' : State) (L' : List Loc), Stand p l e R s m args below meth c T' L' cells slots ∧ Fr n0 L' ∧ T'.heap = h0 ∧ ∀ target, Steps p.tables e below (T'.setTop (mkF m 39 #[.val (.ref a1), .val (.int i1), .val (.int (Int32.ofNat x))] [])) target → Steps p.tables e below (T0.setTop (mkF m 2 #[.val (.ref a1), .val (.int i1), .val (.int (Int32.ofNat x))] [])) target := by
  have V_k := V_b
  obtain ⟨cl, Ar, q, S, M, Hs, G⟩ := V_b
  have S8 : cl.slots.size = 8 := S.trans (by decide)
  have hin : ∀ j, j < 4 → ¬ (Int32.ofNat j < 0 ∨ cl.slots.size ≤ (Int32.ofNat j).toNatClampNeg) := fun j hj => by
    rw [S8, own_n32 (by omega)]
    exact fun q => q.elim (own_nn (by omega)) (fun q => by omega)
  have hat : ∀ j, j < 4 → cl.slots[(Int32.ofNat j).toNatClampNeg]? = some (.int (Int32.ofNat (own_sel l0 l1 l2 l3 j))) := fun j hj => by
    rw [own_n32 (by omega)]
    have q := Hs j (by omega)
    rw [own_at8 l0 l1 l2 l3 hj] at q
    exact q
  obtain ⟨T1, X1, e1, st1⟩ := getF X0 hx hZ hown (host := "") (Or.inl (hw _ (List.mem_of_getElem? (i := 17) rfl))) Via.refl e0 F_l (g := (mkF m 3 #[.val (.ref a1), .val (.int i1), .val (.int (Int32.ofNat x))] [(.ref a1)])) rfl rfl (hb hby d7_3)
  refine ⟨T1, _, X1, N0, e1, fun target kt => ?_⟩
  show Steps p.tables e below (T0.setTop (mkF m 2 #[.val (.ref a1), .val (.int i1), .val (.int (Int32.ofNat x))] [])) _
  refine XS.aloadN X0.here hx rfl (hb hby d7_2) rfl rfl ?_
  show Steps p.tables e below (T0.setTop (mkF m 3 #[.val (.ref a1), .val (.int i1), .val (.int (Int32.ofNat x))] [(.ref a1)])) _
  refine st1 _ ?_
  show Steps p.tables e below (T1.setTop (mkF m 6 #[.val (.ref a1), .val (.int i1), .val (.int (Int32.ofNat x))] [(.ref b)])) _
  refine XS.iloadN X1.here hx rfl (hb hby d7_6) rfl ?_
  show Steps p.tables e below (T1.setTop (mkF m 7 #[.val (.ref a1), .val (.int i1), .val (.int (Int32.ofNat x))] [(.int (Int32.ofNat x)), (.ref b)])) _
  refine X1.iaload hx (j := (Int32.ofNat x)) (v := (.int (Int32.ofNat (own_sel l0 l1 l2 l3 x)))) (by rw [e1]; exact Ar.1) (State.isArrayOf_alike hZ.alike Ar.2.1) Ar.2.2 (hin _ hx4) (hat _ hx4) (g := (mkF m 7 #[.val (.ref a1), .val (.int i1), .val (.int (Int32.ofNat x))] [(.int (Int32.ofNat x)), (.ref b)])) rfl rfl (hb hby d7_7) _ ?_
  show Steps p.tables e below (T1.setTop (mkF m 8 #[.val (.ref a1), .val (.int i1), .val (.int (Int32.ofNat x))] [(.int (Int32.ofNat (own_sel l0 l1 l2 l3 x)))])) _
  refine XS.iloadN X1.here hx rfl (hb hby d7_8) rfl ?_
  show Steps p.tables e below (T1.setTop (mkF m 9 #[.val (.ref a1), .val (.int i1), .val (.int (Int32.ofNat x))] [(.int (Int32.ofNat x)), (.int (Int32.ofNat (own_sel l0 l1 l2 l3 x)))])) _
  refine XS.icmpYes X1.here hx rfl (pc0 := 9) (pc' := 39) rfl (hb hby d7_9) rfl (teq (hc : (Int32.ofNat (own_sel l0 l1 l2 l3 x)) = (Int32.ofNat x))).1 (by decide) (by decide) ?_
  exact kt
theorem own_upx (l0 l1 l2 l3 v : Nat) {x : Nat} (hx : x < 4) : own_sel (own_u 0 x v l0) (own_u 1 x v l1) (own_u 2 x v l2) (own_u 3 x v l3) x = v := by
  match x, hx with
  | 0, _ => rfl
  | 1, _ => rfl
  | 2, _ => rfl
  | 3, _ => rfl
theorem d7_12 : decode prog_24_method_3_code 12 = .ok (.aload_n 0, 1) := by decide +kernel
theorem d7_13 : decode prog_24_method_3_code 13 = .ok (.getfield 7, 3) := by decide +kernel
theorem d7_16 : decode prog_24_method_3_code 16 = .ok (.iload_n 2, 1) := by decide +kernel
theorem d7_17 : decode prog_24_method_3_code 17 = .ok (.aload_n 0, 1) := by decide +kernel
theorem d7_18 : decode prog_24_method_3_code 18 = .ok (.getfield 7, 3) := by decide +kernel
theorem d7_21 : decode prog_24_method_3_code 21 = .ok (.aload_n 0, 1) := by decide +kernel
theorem d7_22 : decode prog_24_method_3_code 22 = .ok (.getfield 7, 3) := by decide +kernel
theorem d7_25 : decode prog_24_method_3_code 25 = .ok (.iload_n 2, 1) := by decide +kernel
theorem d7_26 : decode prog_24_method_3_code 26 = .ok (.iaload, 1) := by decide +kernel
theorem d7_27 : decode prog_24_method_3_code 27 = .ok (.iaload, 1) := by decide +kernel
theorem d7_28 : decode prog_24_method_3_code 28 = .ok (.iastore, 1) := by decide +kernel
theorem d7_29 : decode prog_24_method_3_code 29 = .ok (.aload_n 0, 1) := by decide +kernel
theorem d7_30 : decode prog_24_method_3_code 30 = .ok (.getfield 7, 3) := by decide +kernel
theorem d7_33 : decode prog_24_method_3_code 33 = .ok (.iload_n 2, 1) := by decide +kernel
theorem d7_34 : decode prog_24_method_3_code 34 = .ok (.iaload, 1) := by decide +kernel
theorem d7_35 : decode prog_24_method_3_code 35 = .ok (.istore_n 2, 1) := by decide +kernel
theorem d7_36 : decode prog_24_method_3_code 36 = .ok (.goto (-34), 3) := by decide +kernel
set_option maxRecDepth 65536 in
set_option maxHeartbeats 40000000 in
theorem own_tn {p : Program} {l : Launch} {e : Env} {s : State} {m : MethodId} {args : Array Value} {below : List Frame} {meth : Method} {c : Code} {T0 : State} {locs : List Loc} {Z : State} {a0 : Array Value} {h0 : Heap} {n0 : Nat} {cells slots : Nat} {R : Room} (a1 : Addr) (i1 : Int32) (b : Addr) (kA : ClassId) (x l0 l1 l2 l3 : Nat)
    (X0 : Stand p l e R s m args below meth c T0 locs cells slots) (hx : p.tables.exec = Jvm.exec) (hZ : Z.Warmed39 s.vm) (hw : ∀ d ∈ tables_1, d.before a0 Z = true) (hby : c.code = prog_24_method_3_code) (hml : c.maxLocals = 3) (hown : s.vm.findClass "com/example/etape/etape/chart/EnclosureForest" = some m.cls) (e0 : T0.heap = h0) (Z0 : n0 ≤ h0.size) (N0 : Fr n0 locs) (hx4 : x < 4) (hL : ∀ j, j < 4 → own_sel l0 l1 l2 l3 j < 4) (E_a1 : Exa Z h0 a1 "com/example/etape/etape/chart/EnclosureForest") (F_l : Fld Z h0 a1 "com/example/etape/etape/chart/EnclosureForest" "link" "[I" (.ref b)) (V_b : Arv Z h0 b kA .int (8 : Int32) [(.int (Int32.ofNat l0)), (.int (Int32.ofNat l1)), (.int (Int32.ofNat l2)), (.int (Int32.ofNat l3)), (.int (0 : Int32)), (.int (0 : Int32)), (.int (0 : Int32)), (.int (0 : Int32))] (.int (0 : Int32))) (hne : a1 ≠ b) (g_b : n0 ≤ b) (hc : ¬ ((Int32.ofNat (own_sel l0 l1 l2 l3 x)) = (Int32.ofNat x))) :
    ∃ (T' : State) (L' : List Loc) (h' : Heap), Stand p l e R s m args below meth c T' L' cells slots ∧ Fr n0 L' ∧ T'.heap = h' ∧ n0 ≤ h'.size ∧ Keep h0 h' [b] ∧ Exa Z h' a1 "com/example/etape/etape/chart/EnclosureForest" ∧ Fld Z h' a1 "com/example/etape/etape/chart/EnclosureForest" "link" "[I" (.ref b) ∧ Arv Z h' b kA .int (8 : Int32) [(.int (Int32.ofNat (own_u 0 x (own_sel l0 l1 l2 l3 (own_sel l0 l1 l2 l3 x)) l0))), (.int (Int32.ofNat (own_u 1 x (own_sel l0 l1 l2 l3 (own_sel l0 l1 l2 l3 x)) l1))), (.int (Int32.ofNat (own_u 2 x (own_sel l0 l1 l2 l3 (own_sel l0 l1 l2 l3 x)) l2))), (.int (Int32.ofNat (own_u 3 x (own_sel l0 l1 l2 l3 (own_sel l0 l1 l2 l3 x)) l3))), (.int (0 : Int32)), (.int (0 : Int32)), (.int (0 : Int32)), (.int (0 : Int32))] (.int (0 : Int32)) ∧ ∀ target, Steps p.tables e below (T'.setTop (mkF m 2 #[.val (.ref a1), .val (.int i1), .val (.int (Int32.ofNat (own_sel l0 l1 l2 l3 (own_sel l0 l1 l2 l3 x))))] [])) target → Steps p.tables e below (T0.setTop (mkF m 2 #[.val (.ref a1), .val (.int i1), .val (.int (Int32.ofNat x))] [])) target := by
  have V_k := V_b
  obtain ⟨cl, Ar, q, S, M, Hs, G⟩ := V_b
  have S8 : cl.slots.size = 8 := S.trans (by decide)
  have hin : ∀ j, j < 4 → ¬ (Int32.ofNat j < 0 ∨ cl.slots.size ≤ (Int32.ofNat j).toNatClampNeg) := fun j hj => by
    rw [S8, own_n32 (by omega)]
    exact fun q => q.elim (own_nn (by omega)) (fun q => by omega)
  have hat : ∀ j, j < 4 → cl.slots[(Int32.ofNat j).toNatClampNeg]? = some (.int (Int32.ofNat (own_sel l0 l1 l2 l3 j))) := fun j hj => by
    rw [own_n32 (by omega)]
    have q := Hs j (by omega)
    rw [own_at8 l0 l1 l2 l3 hj] at q
    exact q
  obtain ⟨T1, X1, e1, st1⟩ := getF X0 hx hZ hown (host := "") (Or.inl (hw _ (List.mem_of_getElem? (i := 17) rfl))) Via.refl e0 F_l (g := (mkF m 3 #[.val (.ref a1), .val (.int i1), .val (.int (Int32.ofNat x))] [(.ref a1)])) rfl rfl (hb hby d7_3)
  obtain ⟨T2, X2, e2, st2⟩ := getF X1 hx hZ hown (host := "") (Or.inl (hw _ (List.mem_of_getElem? (i := 17) rfl))) Via.refl e1 F_l (g := (mkF m 13 #[.val (.ref a1), .val (.int i1), .val (.int (Int32.ofNat x))] [(.ref a1)])) rfl rfl (hb hby d7_13)
  obtain ⟨T3, X3, e3, st3⟩ := getF X2 hx hZ hown (host := "") (Or.inl (hw _ (List.mem_of_getElem? (i := 17) rfl))) Via.refl e2 F_l (g := (mkF m 18 #[.val (.ref a1), .val (.int i1), .val (.int (Int32.ofNat x))] [(.ref a1), (.int (Int32.ofNat x)), (.ref b)])) rfl rfl (hb hby d7_18)
  obtain ⟨T4, X4, e4, st4⟩ := getF X3 hx hZ hown (host := "") (Or.inl (hw _ (List.mem_of_getElem? (i := 17) rfl))) Via.refl e3 F_l (g := (mkF m 22 #[.val (.ref a1), .val (.int i1), .val (.int (Int32.ofNat x))] [(.ref a1), (.ref b), (.int (Int32.ofNat x)), (.ref b)])) rfl rfl (hb hby d7_22)
  obtain ⟨T5, h5, X5, e5, W5, st5⟩ := stI X4 hx hZ e4 Ar (j := (Int32.ofNat x)) (hin _ hx4) (g := (mkF m 28 #[.val (.ref a1), .val (.int i1), .val (.int (Int32.ofNat x))] [(.int (Int32.ofNat (own_sel l0 l1 l2 l3 (own_sel l0 l1 l2 l3 x)))), (.int (Int32.ofNat x)), (.ref b)])) rfl rfl (hb hby d7_28)
  have Z6 : n0 ≤ h5.size := Nat.le_trans Z0 (Keep.of_wr W5).1
  have Vw : Arv Z h5 b kA .int (8 : Int32) [(.int (Int32.ofNat (own_u 0 x (own_sel l0 l1 l2 l3 (own_sel l0 l1 l2 l3 x)) l0))), (.int (Int32.ofNat (own_u 1 x (own_sel l0 l1 l2 l3 (own_sel l0 l1 l2 l3 x)) l1))), (.int (Int32.ofNat (own_u 2 x (own_sel l0 l1 l2 l3 (own_sel l0 l1 l2 l3 x)) l2))), (.int (Int32.ofNat (own_u 3 x (own_sel l0 l1 l2 l3 (own_sel l0 l1 l2 l3 x)) l3))), (.int (0 : Int32)), (.int (0 : Int32)), (.int (0 : Int32)), (.int (0 : Int32))] (.int (0 : Int32)) := by
    have q := Arv.set Ar q S M Hs G rfl W5 x (own_n32 (by omega)) (by show x < 8; omega)
    rw [own_set8 l0 l1 l2 l3 (own_sel l0 l1 l2 l3 (own_sel l0 l1 l2 l3 x)) hx4] at q
    exact q
  have N5 := Fr.snoc X5 N0 g_b
  have Vw' := Vw
  obtain ⟨cl2, Ar2, q2, S2, M2, Hs2, G2⟩ := Vw
  have S82 : cl2.slots.size = 8 := S2.trans (by decide)
  have hin2 : ∀ j, j < 4 → ¬ (Int32.ofNat j < 0 ∨ cl2.slots.size ≤ (Int32.ofNat j).toNatClampNeg) := fun j hj => by
    rw [S82, own_n32 (by omega)]
    exact fun q => q.elim (own_nn (by omega)) (fun q => by omega)
  have hat2 : ∀ j, j < 4 → cl2.slots[(Int32.ofNat j).toNatClampNeg]? = some (.int (Int32.ofNat (own_sel (own_u 0 x (own_sel l0 l1 l2 l3 (own_sel l0 l1 l2 l3 x)) l0) (own_u 1 x (own_sel l0 l1 l2 l3 (own_sel l0 l1 l2 l3 x)) l1) (own_u 2 x (own_sel l0 l1 l2 l3 (own_sel l0 l1 l2 l3 x)) l2) (own_u 3 x (own_sel l0 l1 l2 l3 (own_sel l0 l1 l2 l3 x)) l3) j))) := fun j hj => by
    rw [own_n32 (by omega)]
    have q := Hs2 j (by omega)
    rw [own_at8 (own_u 0 x (own_sel l0 l1 l2 l3 (own_sel l0 l1 l2 l3 x)) l0) (own_u 1 x (own_sel l0 l1 l2 l3 (own_sel l0 l1 l2 l3 x)) l1) (own_u 2 x (own_sel l0 l1 l2 l3 (own_sel l0 l1 l2 l3 x)) l2) (own_u 3 x (own_sel l0 l1 l2 l3 (own_sel l0 l1 l2 l3 x)) l3) hj] at q
    exact q
  have hx2 : own_sel (own_u 0 x (own_sel l0 l1 l2 l3 (own_sel l0 l1 l2 l3 x)) l0) (own_u 1 x (own_sel l0 l1 l2 l3 (own_sel l0 l1 l2 l3 x)) l1) (own_u 2 x (own_sel l0 l1 l2 l3 (own_sel l0 l1 l2 l3 x)) l2) (own_u 3 x (own_sel l0 l1 l2 l3 (own_sel l0 l1 l2 l3 x)) l3) x = (own_sel l0 l1 l2 l3 (own_sel l0 l1 l2 l3 x)) := own_upx l0 l1 l2 l3 (own_sel l0 l1 l2 l3 (own_sel l0 l1 l2 l3 x)) hx4
  have f7 := F_l.other W5 (Or.inl hne)
  obtain ⟨T8, X8, e8, st8⟩ := getF X5 hx hZ hown (host := "") (Or.inl (hw _ (List.mem_of_getElem? (i := 17) rfl))) Via.refl e5 f7 (g := (mkF m 30 #[.val (.ref a1), .val (.int i1), .val (.int (Int32.ofNat x))] [(.ref a1)])) rfl rfl (hb hby d7_30)
  have hat3 : cl2.slots[(Int32.ofNat x).toNatClampNeg]? = some (.int (Int32.ofNat (own_sel l0 l1 l2 l3 (own_sel l0 l1 l2 l3 x)))) := by
    rw [hat2 x hx4, hx2]
  have f9 := E_a1.wr W5
  refine ⟨T8, _, h5, X8, N5, e8, Z6, Keep.of_wr W5, f9, f7, Vw', fun target kt => ?_⟩
  show Steps p.tables e below (T0.setTop (mkF m 2 #[.val (.ref a1), .val (.int i1), .val (.int (Int32.ofNat x))] [])) _
  refine XS.aloadN X0.here hx rfl (hb hby d7_2) rfl rfl ?_
  show Steps p.tables e below (T0.setTop (mkF m 3 #[.val (.ref a1), .val (.int i1), .val (.int (Int32.ofNat x))] [(.ref a1)])) _
  refine st1 _ ?_
  show Steps p.tables e below (T1.setTop (mkF m 6 #[.val (.ref a1), .val (.int i1), .val (.int (Int32.ofNat x))] [(.ref b)])) _
  refine XS.iloadN X1.here hx rfl (hb hby d7_6) rfl ?_
  show Steps p.tables e below (T1.setTop (mkF m 7 #[.val (.ref a1), .val (.int i1), .val (.int (Int32.ofNat x))] [(.int (Int32.ofNat x)), (.ref b)])) _
  refine X1.iaload hx (j := (Int32.ofNat x)) (v := (.int (Int32.ofNat (own_sel l0 l1 l2 l3 x)))) (by rw [e1]; exact Ar.1) (State.isArrayOf_alike hZ.alike Ar.2.1) Ar.2.2 (hin _ hx4) (hat _ hx4) (g := (mkF m 7 #[.val (.ref a1), .val (.int i1), .val (.int (Int32.ofNat x))] [(.int (Int32.ofNat x)), (.ref b)])) rfl rfl (hb hby d7_7) _ ?_
  show Steps p.tables e below (T1.setTop (mkF m 8 #[.val (.ref a1), .val (.int i1), .val (.int (Int32.ofNat x))] [(.int (Int32.ofNat (own_sel l0 l1 l2 l3 x)))])) _
  refine XS.iloadN X1.here hx rfl (hb hby d7_8) rfl ?_
  show Steps p.tables e below (T1.setTop (mkF m 9 #[.val (.ref a1), .val (.int i1), .val (.int (Int32.ofNat x))] [(.int (Int32.ofNat x)), (.int (Int32.ofNat (own_sel l0 l1 l2 l3 x)))])) _
  refine XS.icmpNo X1.here hx rfl (hb hby d7_9) rfl (feq (hc : ¬ ((Int32.ofNat (own_sel l0 l1 l2 l3 x)) = (Int32.ofNat x)))).1 ?_
  show Steps p.tables e below (T1.setTop (mkF m 12 #[.val (.ref a1), .val (.int i1), .val (.int (Int32.ofNat x))] [])) _
  refine XS.aloadN X1.here hx rfl (hb hby d7_12) rfl rfl ?_
  show Steps p.tables e below (T1.setTop (mkF m 13 #[.val (.ref a1), .val (.int i1), .val (.int (Int32.ofNat x))] [(.ref a1)])) _
  refine st2 _ ?_
  show Steps p.tables e below (T2.setTop (mkF m 16 #[.val (.ref a1), .val (.int i1), .val (.int (Int32.ofNat x))] [(.ref b)])) _
  refine XS.iloadN X2.here hx rfl (hb hby d7_16) rfl ?_
  show Steps p.tables e below (T2.setTop (mkF m 17 #[.val (.ref a1), .val (.int i1), .val (.int (Int32.ofNat x))] [(.int (Int32.ofNat x)), (.ref b)])) _
  refine XS.aloadN X2.here hx rfl (hb hby d7_17) rfl rfl ?_
  show Steps p.tables e below (T2.setTop (mkF m 18 #[.val (.ref a1), .val (.int i1), .val (.int (Int32.ofNat x))] [(.ref a1), (.int (Int32.ofNat x)), (.ref b)])) _
  refine st3 _ ?_
  show Steps p.tables e below (T3.setTop (mkF m 21 #[.val (.ref a1), .val (.int i1), .val (.int (Int32.ofNat x))] [(.ref b), (.int (Int32.ofNat x)), (.ref b)])) _
  refine XS.aloadN X3.here hx rfl (hb hby d7_21) rfl rfl ?_
  show Steps p.tables e below (T3.setTop (mkF m 22 #[.val (.ref a1), .val (.int i1), .val (.int (Int32.ofNat x))] [(.ref a1), (.ref b), (.int (Int32.ofNat x)), (.ref b)])) _
  refine st4 _ ?_
  show Steps p.tables e below (T4.setTop (mkF m 25 #[.val (.ref a1), .val (.int i1), .val (.int (Int32.ofNat x))] [(.ref b), (.ref b), (.int (Int32.ofNat x)), (.ref b)])) _
  refine XS.iloadN X4.here hx rfl (hb hby d7_25) rfl ?_
  show Steps p.tables e below (T4.setTop (mkF m 26 #[.val (.ref a1), .val (.int i1), .val (.int (Int32.ofNat x))] [(.int (Int32.ofNat x)), (.ref b), (.ref b), (.int (Int32.ofNat x)), (.ref b)])) _
  refine X4.iaload hx (j := (Int32.ofNat x)) (v := (.int (Int32.ofNat (own_sel l0 l1 l2 l3 x)))) (by rw [e4]; exact Ar.1) (State.isArrayOf_alike hZ.alike Ar.2.1) Ar.2.2 (hin _ hx4) (hat _ hx4) (g := (mkF m 26 #[.val (.ref a1), .val (.int i1), .val (.int (Int32.ofNat x))] [(.int (Int32.ofNat x)), (.ref b), (.ref b), (.int (Int32.ofNat x)), (.ref b)])) rfl rfl (hb hby d7_26) _ ?_
  show Steps p.tables e below (T4.setTop (mkF m 27 #[.val (.ref a1), .val (.int i1), .val (.int (Int32.ofNat x))] [(.int (Int32.ofNat (own_sel l0 l1 l2 l3 x))), (.ref b), (.int (Int32.ofNat x)), (.ref b)])) _
  refine X4.iaload hx (j := (Int32.ofNat (own_sel l0 l1 l2 l3 x))) (v := (.int (Int32.ofNat (own_sel l0 l1 l2 l3 (own_sel l0 l1 l2 l3 x))))) (by rw [e4]; exact Ar.1) (State.isArrayOf_alike hZ.alike Ar.2.1) Ar.2.2 (hin _ (hL _ hx4)) (hat _ (hL _ hx4)) (g := (mkF m 27 #[.val (.ref a1), .val (.int i1), .val (.int (Int32.ofNat x))] [(.int (Int32.ofNat (own_sel l0 l1 l2 l3 x))), (.ref b), (.int (Int32.ofNat x)), (.ref b)])) rfl rfl (hb hby d7_27) _ ?_
  show Steps p.tables e below (T4.setTop (mkF m 28 #[.val (.ref a1), .val (.int i1), .val (.int (Int32.ofNat x))] [(.int (Int32.ofNat (own_sel l0 l1 l2 l3 (own_sel l0 l1 l2 l3 x)))), (.int (Int32.ofNat x)), (.ref b)])) _
  refine st5 _ ?_
  show Steps p.tables e below (T5.setTop (mkF m 29 #[.val (.ref a1), .val (.int i1), .val (.int (Int32.ofNat x))] [])) _
  refine XS.aloadN X5.here hx rfl (hb hby d7_29) rfl rfl ?_
  show Steps p.tables e below (T5.setTop (mkF m 30 #[.val (.ref a1), .val (.int i1), .val (.int (Int32.ofNat x))] [(.ref a1)])) _
  refine st8 _ ?_
  show Steps p.tables e below (T8.setTop (mkF m 33 #[.val (.ref a1), .val (.int i1), .val (.int (Int32.ofNat x))] [(.ref b)])) _
  refine XS.iloadN X8.here hx rfl (hb hby d7_33) rfl ?_
  show Steps p.tables e below (T8.setTop (mkF m 34 #[.val (.ref a1), .val (.int i1), .val (.int (Int32.ofNat x))] [(.int (Int32.ofNat x)), (.ref b)])) _
  refine X8.iaload hx (j := (Int32.ofNat x)) (v := (.int (Int32.ofNat (own_sel l0 l1 l2 l3 (own_sel l0 l1 l2 l3 x))))) (by rw [e8]; exact Ar2.1) (State.isArrayOf_alike hZ.alike Ar2.2.1) Ar2.2.2 (hin2 _ hx4) hat3 (g := (mkF m 34 #[.val (.ref a1), .val (.int i1), .val (.int (Int32.ofNat x))] [(.int (Int32.ofNat x)), (.ref b)])) rfl rfl (hb hby d7_34) _ ?_
  show Steps p.tables e below (T8.setTop (mkF m 35 #[.val (.ref a1), .val (.int i1), .val (.int (Int32.ofNat x))] [(.int (Int32.ofNat (own_sel l0 l1 l2 l3 (own_sel l0 l1 l2 l3 x))))])) _
  refine XS.istoreN X8.here hx rfl (hb hby d7_35) rfl (l' := #[.val (.ref a1), .val (.int i1), .val (.int (Int32.ofNat (own_sel l0 l1 l2 l3 (own_sel l0 l1 l2 l3 x))))]) rfl ?_
  show Steps p.tables e below (T8.setTop (mkF m 36 #[.val (.ref a1), .val (.int i1), .val (.int (Int32.ofNat (own_sel l0 l1 l2 l3 (own_sel l0 l1 l2 l3 x))))] [])) _
  refine XS.goto X8.here hx rfl (pc0 := 36) (pc' := 2) rfl (hb hby d7_36) (by decide) (by decide) ?_
  exact kt
set_option maxRecDepth 65536 in
theorem own_fin3 : ∀ a b c d x : Fin 4, own_invb (own_sel a.1 b.1 c.1 d.1) = true → own_c3 (own_sel a.1 b.1 c.1 d.1) (own_sel a.1 b.1 c.1 d.1 (own_sel a.1 b.1 c.1 d.1 x.1)) = own_sel a.1 b.1 c.1 d.1 (own_sel a.1 b.1 c.1 d.1 x.1) → own_up a.1 b.1 c.1 d.1 x.1 (own_sel a.1 b.1 c.1 d.1 (own_sel a.1 b.1 c.1 d.1 x.1)) (own_sel a.1 b.1 c.1 d.1 (own_sel a.1 b.1 c.1 d.1 x.1)) = own_sel a.1 b.1 c.1 d.1 (own_sel a.1 b.1 c.1 d.1 x.1) := by decide +kernel
theorem own_root {l0 l1 l2 l3 x : Nat} (h : own_inv l0 l1 l2 l3) (hx : x < 4) (e : own_sel l0 l1 l2 l3 x = x) : own_c3 (own_sel l0 l1 l2 l3) x = x := by
  show own_sel l0 l1 l2 l3 (own_sel l0 l1 l2 l3 (own_sel l0 l1 l2 l3 x)) = x
  rw [e, e, e]
/-- a place that is the outermost of its own stays so -/
theorem own_fix {l0 l1 l2 l3 k0 k1 k2 k3 x y : Nat} (h : own_inv l0 l1 l2 l3) (hx : x < 4) (hk : own_inv k0 k1 k2 k3) (hy : y < 4) (hs : ∀ j, j < 4 → own_c3 (own_sel l0 l1 l2 l3) j = own_c3 (own_sel k0 k1 k2 k3) j) (e : own_sel l0 l1 l2 l3 (own_sel l0 l1 l2 l3 x) = own_c3 (own_sel k0 k1 k2 k3) y) : own_sel (own_u 0 x (own_sel l0 l1 l2 l3 (own_sel l0 l1 l2 l3 x)) l0) (own_u 1 x (own_sel l0 l1 l2 l3 (own_sel l0 l1 l2 l3 x)) l1) (own_u 2 x (own_sel l0 l1 l2 l3 (own_sel l0 l1 l2 l3 x)) l2) (own_u 3 x (own_sel l0 l1 l2 l3 (own_sel l0 l1 l2 l3 x)) l3) (own_sel l0 l1 l2 l3 (own_sel l0 l1 l2 l3 x)) = own_sel l0 l1 l2 l3 (own_sel l0 l1 l2 l3 x) := by
  have r1 : own_c3 (own_sel k0 k1 k2 k3) y < 4 := hk.1 _ (hk.1 _ (hk.1 _ hy))
  have r2 : own_sel k0 k1 k2 k3 (own_c3 (own_sel k0 k1 k2 k3) y) = own_c3 (own_sel k0 k1 k2 k3) y := hk.2 y hy
  have r3 : own_c3 (own_sel k0 k1 k2 k3) (own_c3 (own_sel k0 k1 k2 k3) y) = own_c3 (own_sel k0 k1 k2 k3) y := by
    show own_sel k0 k1 k2 k3 (own_sel k0 k1 k2 k3 (own_sel k0 k1 k2 k3 (own_c3 (own_sel k0 k1 k2 k3) y))) = _
    rw [r2, r2, r2]
  have r4 : own_c3 (own_sel l0 l1 l2 l3) (own_sel l0 l1 l2 l3 (own_sel l0 l1 l2 l3 x)) = own_sel l0 l1 l2 l3 (own_sel l0 l1 l2 l3 x) := by rw [e, hs _ r1, r3]
  have b0 : l0 < 4 := h.1 0 (by omega)
  have b1 : l1 < 4 := h.1 1 (by omega)
  have b2 : l2 < 4 := h.1 2 (by omega)
  have b3 : l3 < 4 := h.1 3 (by omega)
  exact own_fin3 ⟨l0, b0⟩ ⟨l1, b1⟩ ⟨l2, b2⟩ ⟨l3, b3⟩ ⟨x, hx⟩ (own_inv_b h) r4
theorem d7_0 : decode prog_24_method_3_code 0 = .ok (.iload_n 1, 1) := by decide +kernel
theorem d7_1 : decode prog_24_method_3_code 1 = .ok (.istore_n 2, 1) := by decide +kernel
theorem d7_39 : decode prog_24_method_3_code 39 = .ok (.iload_n 2, 1) := by decide +kernel
theorem d7_40 : decode prog_24_method_3_code 40 = .ok (.ireturn, 1) := by decide +kernel
theorem ef_rm7 (m : MethodId) (x0 : Addr) (x1 : Int32) : entryFrame m #[(.ref x0), (.int x1)] 3 = mkF m 0 #[.val (.ref x0), .val (.int x1), .unset] [] := by first | (simp [entryFrame, mkF, argsToLocals, Value.category]; done) | rfl
def Qrm7 (Z : State) (a1 : Addr) (b : Addr) (kA : ClassId) (x l0 l1 l2 l3 : Nat) (h0 : Heap) (n0 : Nat) (v : Option Value) (h : Heap) (L : List Loc) : Prop := ∃ m0 m1 m2 m3 : Nat, v = some (.int (Int32.ofNat (own_c3 (own_sel l0 l1 l2 l3) x))) ∧ Fr n0 L ∧ Keep h0 h [b] ∧ own_inv m0 m1 m2 m3 ∧ (∀ y, y < 4 → own_c3 (own_sel m0 m1 m2 m3) y = own_c3 (own_sel l0 l1 l2 l3) y) ∧ Exa Z h a1 "com/example/etape/etape/chart/EnclosureForest" ∧ Fld Z h a1 "com/example/etape/etape/chart/EnclosureForest" "link" "[I" (.ref b) ∧ Arv Z h b kA .int (8 : Int32) [(.int (Int32.ofNat m0)), (.int (Int32.ofNat m1)), (.int (Int32.ofNat m2)), (.int (Int32.ofNat m3)), (.int (0 : Int32)), (.int (0 : Int32)), (.int (0 : Int32)), (.int (0 : Int32))] (.int (0 : Int32))
set_option maxRecDepth 65536 in
set_option maxHeartbeats 40000000 in
theorem rm7 (l : Launch) (Z : State) (a0 : Array Value) (hw : ∀ d ∈ tables_1, d.before a0 Z = true) (ws : List Jvm.Cond) (a1 : Addr) (b : Addr) (kA : ClassId) (x l0 l1 l2 l3 : Nat) (h0 : Heap) (n0 : Nat) (Z0 : n0 ≤ h0.size) (hx4 : x < 4) (hi : own_inv l0 l1 l2 l3) (E_a1 : Exa Z h0 a1 "com/example/etape/etape/chart/EnclosureForest") (F_l : Fld Z h0 a1 "com/example/etape/etape/chart/EnclosureForest" "link" "[I" (.ref b)) (V_b : Arv Z h0 b kA .int (8 : Int32) [(.int (Int32.ofNat l0)), (.int (Int32.ofNat l1)), (.int (Int32.ofNat l2)), (.int (Int32.ofNat l3)), (.int (0 : Int32)), (.int (0 : Int32)), (.int (0 : Int32)), (.int (0 : Int32))] (.int (0 : Int32))) (hne : a1 ≠ b) (g_b : n0 ≤ b) :
    MetFree l (⟨"com/example/etape/etape/chart/EnclosureForest", "outermost", "(I)I"⟩ : MethodName) (head1 (Jvm.Cond.code (⟨"com/example/etape/etape/chart/EnclosureForest", "outermost", "(I)I"⟩ : MethodName) prog_24_method_3_code 3 (some .int) :: ws) ({ frames := 0, cells := 0, slots := 0, locals := 0 } : Room)) (fun a U => a = #[(.ref a1), (.int (Int32.ofNat x))] ∧ Z.Warmed39 U.vm ∧ U.heap = h0) (fun _ _ _ _ _ => True) (fun _ U o U' => ∃ v L, o = .returned v ∧ Qrm7 Z a1 b kA x l0 l1 l2 l3 h0 n0 v U'.heap L ∧ FrameEnd U o U' L ({ frames := 0, cells := 0, slots := 0, locals := 0 } : Room).cells ({ frames := 0, cells := 0, slots := 0, locals := 0 } : Room).slots) := by
  refine MetFree.of_bodySF (plainFor_of_name pn_com_example_etape_etape_chart_EnclosureForest) hisR ?_
  intro p e s m args below meth c s₁ Bd hml0 hP hK
  obtain ⟨rfl, hZ, hh⟩ := hP
  have hx := Bd.exec
  have hby := Bd.bytes
  have hml : c.maxLocals = 3 := hml0
  have hown : s.vm.findClass "com/example/etape/etape/chart/EnclosureForest" = some m.cls := findClass_of_methodNamed Bd.named
  have hnm := (name_of_methodNamed Bd.named Bd.method).1
  have X0 : Stand p l e ({ frames := 0, cells := 0, slots := 0, locals := 0 } : Room) s m #[(.ref a1), (.int (Int32.ofNat x))] below meth c s₁ [] 0 0 := Stand.of_body Bd
  have e0 : s₁.heap = h0 := by rw [← hh, Bd.state]; rfl
  have N0 := Fr.nil n0
  have pre0 : ∀ t, Steps p.tables e below (s₁.setTop (mkF m 0 #[.val (.ref a1), .val (.int (Int32.ofNat x)), .unset] [])) t → Steps p.tables e below (s₁.setTop (entryFrame m #[(.ref a1), (.int (Int32.ofNat x))] 3)) t := fun t k => castTop (ef_rm7 m a1 (Int32.ofNat x)) k
  by_cases hc : (Int32.ofNat (own_sel l0 l1 l2 l3 x)) = (Int32.ofNat x)
  · obtain ⟨TA, LA, XA, NA, eA, stA⟩ := own_lv a1 (Int32.ofNat x) b kA x l0 l1 l2 l3 X0 hx hZ hw hby hml hown e0 Z0 N0 hx4 hi.1 E_a1 F_l V_b hne g_b hc
    have e3 : own_c3 (own_sel l0 l1 l2 l3) x = x := own_root hi hx4 (own_inj (by have := hi.1 x hx4; omega) (by omega) hc)
    obtain ⟨fs, hr, hrun, hended, hW, hsame⟩ := XA.leave (v := some (.int (Int32.ofNat x))) (fun h => by rw [Bd.returns] at h; cases h)
    refine ⟨_, _, pre0 _ ?_, hrun, hended, _, _, rfl, ?_, ⟨_, rfl⟩, hW, hsame.mono (by decide) (by decide)⟩
    · show Steps p.tables e below (s₁.setTop (mkF m 0 #[.val (.ref a1), .val (.int (Int32.ofNat x)), .unset] [])) _
      refine XS.iloadN X0.here hx rfl (hb hby d7_0) rfl ?_
      show Steps p.tables e below (s₁.setTop (mkF m 1 #[.val (.ref a1), .val (.int (Int32.ofNat x)), .unset] [(.int (Int32.ofNat x))])) _
      refine XS.istoreN X0.here hx rfl (hb hby d7_1) rfl (l' := #[.val (.ref a1), .val (.int (Int32.ofNat x)), .val (.int (Int32.ofNat x))]) rfl ?_
      refine stA _ ?_
      show Steps p.tables e below (TA.setTop (mkF m 39 #[.val (.ref a1), .val (.int (Int32.ofNat x)), .val (.int (Int32.ofNat x))] [])) _
      refine XS.iloadN XA.here hx rfl (hb hby d7_39) rfl ?_
      show Steps p.tables e below (TA.setTop (mkF m 40 #[.val (.ref a1), .val (.int (Int32.ofNat x)), .val (.int (Int32.ofNat x))] [(.int (Int32.ofNat x))])) _
      exact retI XA hx Bd.returns (hb hby d7_40) hr
    · show Qrm7 Z a1 b kA x l0 l1 l2 l3 h0 n0 _ TA.heap _
      rw [eA]
      exact ⟨l0, l1, l2, l3, by rw [e3], NA, Keep.refl _ _, hi, fun _ _ => rfl, E_a1, F_l, V_b⟩
  · obtain ⟨TB, LB, hB, XB, NB, eB, ZB, KB, EB, FB, VB, stB⟩ := own_tn a1 (Int32.ofNat x) b kA x l0 l1 l2 l3 X0 hx hZ hw hby hml hown e0 Z0 N0 hx4 hi.1 E_a1 F_l V_b hne g_b hc
    have s1 := own_step hi hx4
    have v1 : (own_sel l0 l1 l2 l3 (own_sel l0 l1 l2 l3 x)) < 4 := hi.1 _ (hi.1 _ hx4)
    have t2 : (own_sel (own_u 0 x (own_sel l0 l1 l2 l3 (own_sel l0 l1 l2 l3 x)) l0) (own_u 1 x (own_sel l0 l1 l2 l3 (own_sel l0 l1 l2 l3 x)) l1) (own_u 2 x (own_sel l0 l1 l2 l3 (own_sel l0 l1 l2 l3 x)) l2) (own_u 3 x (own_sel l0 l1 l2 l3 (own_sel l0 l1 l2 l3 x)) l3) (own_sel (own_u 0 x (own_sel l0 l1 l2 l3 (own_sel l0 l1 l2 l3 x)) l0) (own_u 1 x (own_sel l0 l1 l2 l3 (own_sel l0 l1 l2 l3 x)) l1) (own_u 2 x (own_sel l0 l1 l2 l3 (own_sel l0 l1 l2 l3 x)) l2) (own_u 3 x (own_sel l0 l1 l2 l3 (own_sel l0 l1 l2 l3 x)) l3) (own_sel l0 l1 l2 l3 (own_sel l0 l1 l2 l3 x)))) = own_c3 (own_sel l0 l1 l2 l3) x := own_two hi hx4
    by_cases hd : (Int32.ofNat (own_sel (own_u 0 x (own_sel l0 l1 l2 l3 (own_sel l0 l1 l2 l3 x)) l0) (own_u 1 x (own_sel l0 l1 l2 l3 (own_sel l0 l1 l2 l3 x)) l1) (own_u 2 x (own_sel l0 l1 l2 l3 (own_sel l0 l1 l2 l3 x)) l2) (own_u 3 x (own_sel l0 l1 l2 l3 (own_sel l0 l1 l2 l3 x)) l3) (own_sel l0 l1 l2 l3 (own_sel l0 l1 l2 l3 x)))) = (Int32.ofNat (own_sel l0 l1 l2 l3 (own_sel l0 l1 l2 l3 x)))
    · obtain ⟨TC, LC, XC, NC, eC, stC⟩ := own_lv a1 (Int32.ofNat x) b kA (own_sel l0 l1 l2 l3 (own_sel l0 l1 l2 l3 x)) (own_u 0 x (own_sel l0 l1 l2 l3 (own_sel l0 l1 l2 l3 x)) l0) (own_u 1 x (own_sel l0 l1 l2 l3 (own_sel l0 l1 l2 l3 x)) l1) (own_u 2 x (own_sel l0 l1 l2 l3 (own_sel l0 l1 l2 l3 x)) l2) (own_u 3 x (own_sel l0 l1 l2 l3 (own_sel l0 l1 l2 l3 x)) l3) XB hx hZ hw hby hml hown eB ZB NB v1 s1.1.1 EB FB VB hne g_b hd
      have d1 : own_sel (own_u 0 x (own_sel l0 l1 l2 l3 (own_sel l0 l1 l2 l3 x)) l0) (own_u 1 x (own_sel l0 l1 l2 l3 (own_sel l0 l1 l2 l3 x)) l1) (own_u 2 x (own_sel l0 l1 l2 l3 (own_sel l0 l1 l2 l3 x)) l2) (own_u 3 x (own_sel l0 l1 l2 l3 (own_sel l0 l1 l2 l3 x)) l3) (own_sel l0 l1 l2 l3 (own_sel l0 l1 l2 l3 x)) = (own_sel l0 l1 l2 l3 (own_sel l0 l1 l2 l3 x)) := own_inj (by have := s1.1.1 _ v1; omega) (by omega) hd
      have e3 : (own_sel l0 l1 l2 l3 (own_sel l0 l1 l2 l3 x)) = own_c3 (own_sel l0 l1 l2 l3) x := by rw [← t2, d1, d1]
      obtain ⟨fs, hr, hrun, hended, hW, hsame⟩ := XC.leave (v := some (.int (Int32.ofNat (own_sel l0 l1 l2 l3 (own_sel l0 l1 l2 l3 x))))) (fun h => by rw [Bd.returns] at h; cases h)
      refine ⟨_, _, pre0 _ ?_, hrun, hended, _, _, rfl, ?_, ⟨_, rfl⟩, hW, hsame.mono (by decide) (by decide)⟩
      · show Steps p.tables e below (s₁.setTop (mkF m 0 #[.val (.ref a1), .val (.int (Int32.ofNat x)), .unset] [])) _
        refine XS.iloadN X0.here hx rfl (hb hby d7_0) rfl ?_
        show Steps p.tables e below (s₁.setTop (mkF m 1 #[.val (.ref a1), .val (.int (Int32.ofNat x)), .unset] [(.int (Int32.ofNat x))])) _
        refine XS.istoreN X0.here hx rfl (hb hby d7_1) rfl (l' := #[.val (.ref a1), .val (.int (Int32.ofNat x)), .val (.int (Int32.ofNat x))]) rfl ?_
        refine stB _ ?_
        refine stC _ ?_
        show Steps p.tables e below (TC.setTop (mkF m 39 #[.val (.ref a1), .val (.int (Int32.ofNat x)), .val (.int (Int32.ofNat (own_sel l0 l1 l2 l3 (own_sel l0 l1 l2 l3 x))))] [])) _
        refine XS.iloadN XC.here hx rfl (hb hby d7_39) rfl ?_
        show Steps p.tables e below (TC.setTop (mkF m 40 #[.val (.ref a1), .val (.int (Int32.ofNat x)), .val (.int (Int32.ofNat (own_sel l0 l1 l2 l3 (own_sel l0 l1 l2 l3 x))))] [(.int (Int32.ofNat (own_sel l0 l1 l2 l3 (own_sel l0 l1 l2 l3 x))))])) _
        exact retI XC hx Bd.returns (hb hby d7_40) hr
      · show Qrm7 Z a1 b kA x l0 l1 l2 l3 h0 n0 _ TC.heap _
        rw [eC]
        exact ⟨(own_u 0 x (own_sel l0 l1 l2 l3 (own_sel l0 l1 l2 l3 x)) l0), (own_u 1 x (own_sel l0 l1 l2 l3 (own_sel l0 l1 l2 l3 x)) l1), (own_u 2 x (own_sel l0 l1 l2 l3 (own_sel l0 l1 l2 l3 x)) l2), (own_u 3 x (own_sel l0 l1 l2 l3 (own_sel l0 l1 l2 l3 x)) l3), by rw [← e3], NC, KB, s1.1, s1.2, EB, FB, VB⟩
    · obtain ⟨TC, LC, hC, XC, NC, eC, ZC, KC, EC, FC, VC, stC⟩ := own_tn a1 (Int32.ofNat x) b kA (own_sel l0 l1 l2 l3 (own_sel l0 l1 l2 l3 x)) (own_u 0 x (own_sel l0 l1 l2 l3 (own_sel l0 l1 l2 l3 x)) l0) (own_u 1 x (own_sel l0 l1 l2 l3 (own_sel l0 l1 l2 l3 x)) l1) (own_u 2 x (own_sel l0 l1 l2 l3 (own_sel l0 l1 l2 l3 x)) l2) (own_u 3 x (own_sel l0 l1 l2 l3 (own_sel l0 l1 l2 l3 x)) l3) XB hx hZ hw hby hml hown eB ZB NB v1 s1.1.1 EB FB VB hne g_b hd
      have s2 := own_step s1.1 v1
      have v2 : (own_sel (own_u 0 x (own_sel l0 l1 l2 l3 (own_sel l0 l1 l2 l3 x)) l0) (own_u 1 x (own_sel l0 l1 l2 l3 (own_sel l0 l1 l2 l3 x)) l1) (own_u 2 x (own_sel l0 l1 l2 l3 (own_sel l0 l1 l2 l3 x)) l2) (own_u 3 x (own_sel l0 l1 l2 l3 (own_sel l0 l1 l2 l3 x)) l3) (own_sel (own_u 0 x (own_sel l0 l1 l2 l3 (own_sel l0 l1 l2 l3 x)) l0) (own_u 1 x (own_sel l0 l1 l2 l3 (own_sel l0 l1 l2 l3 x)) l1) (own_u 2 x (own_sel l0 l1 l2 l3 (own_sel l0 l1 l2 l3 x)) l2) (own_u 3 x (own_sel l0 l1 l2 l3 (own_sel l0 l1 l2 l3 x)) l3) (own_sel l0 l1 l2 l3 (own_sel l0 l1 l2 l3 x)))) < 4 := s1.1.1 _ (s1.1.1 _ v1)
      have r2 : own_sel (own_u 0 (own_sel l0 l1 l2 l3 (own_sel l0 l1 l2 l3 x)) (own_sel (own_u 0 x (own_sel l0 l1 l2 l3 (own_sel l0 l1 l2 l3 x)) l0) (own_u 1 x (own_sel l0 l1 l2 l3 (own_sel l0 l1 l2 l3 x)) l1) (own_u 2 x (own_sel l0 l1 l2 l3 (own_sel l0 l1 l2 l3 x)) l2) (own_u 3 x (own_sel l0 l1 l2 l3 (own_sel l0 l1 l2 l3 x)) l3) (own_sel (own_u 0 x (own_sel l0 l1 l2 l3 (own_sel l0 l1 l2 l3 x)) l0) (own_u 1 x (own_sel l0 l1 l2 l3 (own_sel l0 l1 l2 l3 x)) l1) (own_u 2 x (own_sel l0 l1 l2 l3 (own_sel l0 l1 l2 l3 x)) l2) (own_u 3 x (own_sel l0 l1 l2 l3 (own_sel l0 l1 l2 l3 x)) l3) (own_sel l0 l1 l2 l3 (own_sel l0 l1 l2 l3 x)))) (own_u 0 x (own_sel l0 l1 l2 l3 (own_sel l0 l1 l2 l3 x)) l0)) (own_u 1 (own_sel l0 l1 l2 l3 (own_sel l0 l1 l2 l3 x)) (own_sel (own_u 0 x (own_sel l0 l1 l2 l3 (own_sel l0 l1 l2 l3 x)) l0) (own_u 1 x (own_sel l0 l1 l2 l3 (own_sel l0 l1 l2 l3 x)) l1) (own_u 2 x (own_sel l0 l1 l2 l3 (own_sel l0 l1 l2 l3 x)) l2) (own_u 3 x (own_sel l0 l1 l2 l3 (own_sel l0 l1 l2 l3 x)) l3) (own_sel (own_u 0 x (own_sel l0 l1 l2 l3 (own_sel l0 l1 l2 l3 x)) l0) (own_u 1 x (own_sel l0 l1 l2 l3 (own_sel l0 l1 l2 l3 x)) l1) (own_u 2 x (own_sel l0 l1 l2 l3 (own_sel l0 l1 l2 l3 x)) l2) (own_u 3 x (own_sel l0 l1 l2 l3 (own_sel l0 l1 l2 l3 x)) l3) (own_sel l0 l1 l2 l3 (own_sel l0 l1 l2 l3 x)))) (own_u 1 x (own_sel l0 l1 l2 l3 (own_sel l0 l1 l2 l3 x)) l1)) (own_u 2 (own_sel l0 l1 l2 l3 (own_sel l0 l1 l2 l3 x)) (own_sel (own_u 0 x (own_sel l0 l1 l2 l3 (own_sel l0 l1 l2 l3 x)) l0) (own_u 1 x (own_sel l0 l1 l2 l3 (own_sel l0 l1 l2 l3 x)) l1) (own_u 2 x (own_sel l0 l1 l2 l3 (own_sel l0 l1 l2 l3 x)) l2) (own_u 3 x (own_sel l0 l1 l2 l3 (own_sel l0 l1 l2 l3 x)) l3) (own_sel (own_u 0 x (own_sel l0 l1 l2 l3 (own_sel l0 l1 l2 l3 x)) l0) (own_u 1 x (own_sel l0 l1 l2 l3 (own_sel l0 l1 l2 l3 x)) l1) (own_u 2 x (own_sel l0 l1 l2 l3 (own_sel l0 l1 l2 l3 x)) l2) (own_u 3 x (own_sel l0 l1 l2 l3 (own_sel l0 l1 l2 l3 x)) l3) (own_sel l0 l1 l2 l3 (own_sel l0 l1 l2 l3 x)))) (own_u 2 x (own_sel l0 l1 l2 l3 (own_sel l0 l1 l2 l3 x)) l2)) (own_u 3 (own_sel l0 l1 l2 l3 (own_sel l0 l1 l2 l3 x)) (own_sel (own_u 0 x (own_sel l0 l1 l2 l3 (own_sel l0 l1 l2 l3 x)) l0) (own_u 1 x (own_sel l0 l1 l2 l3 (own_sel l0 l1 l2 l3 x)) l1) (own_u 2 x (own_sel l0 l1 l2 l3 (own_sel l0 l1 l2 l3 x)) l2) (own_u 3 x (own_sel l0 l1 l2 l3 (own_sel l0 l1 l2 l3 x)) l3) (own_sel (own_u 0 x (own_sel l0 l1 l2 l3 (own_sel l0 l1 l2 l3 x)) l0) (own_u 1 x (own_sel l0 l1 l2 l3 (own_sel l0 l1 l2 l3 x)) l1) (own_u 2 x (own_sel l0 l1 l2 l3 (own_sel l0 l1 l2 l3 x)) l2) (own_u 3 x (own_sel l0 l1 l2 l3 (own_sel l0 l1 l2 l3 x)) l3) (own_sel l0 l1 l2 l3 (own_sel l0 l1 l2 l3 x)))) (own_u 3 x (own_sel l0 l1 l2 l3 (own_sel l0 l1 l2 l3 x)) l3)) (own_sel (own_u 0 x (own_sel l0 l1 l2 l3 (own_sel l0 l1 l2 l3 x)) l0) (own_u 1 x (own_sel l0 l1 l2 l3 (own_sel l0 l1 l2 l3 x)) l1) (own_u 2 x (own_sel l0 l1 l2 l3 (own_sel l0 l1 l2 l3 x)) l2) (own_u 3 x (own_sel l0 l1 l2 l3 (own_sel l0 l1 l2 l3 x)) l3) (own_sel (own_u 0 x (own_sel l0 l1 l2 l3 (own_sel l0 l1 l2 l3 x)) l0) (own_u 1 x (own_sel l0 l1 l2 l3 (own_sel l0 l1 l2 l3 x)) l1) (own_u 2 x (own_sel l0 l1 l2 l3 (own_sel l0 l1 l2 l3 x)) l2) (own_u 3 x (own_sel l0 l1 l2 l3 (own_sel l0 l1 l2 l3 x)) l3) (own_sel l0 l1 l2 l3 (own_sel l0 l1 l2 l3 x)))) = (own_sel (own_u 0 x (own_sel l0 l1 l2 l3 (own_sel l0 l1 l2 l3 x)) l0) (own_u 1 x (own_sel l0 l1 l2 l3 (own_sel l0 l1 l2 l3 x)) l1) (own_u 2 x (own_sel l0 l1 l2 l3 (own_sel l0 l1 l2 l3 x)) l2) (own_u 3 x (own_sel l0 l1 l2 l3 (own_sel l0 l1 l2 l3 x)) l3) (own_sel (own_u 0 x (own_sel l0 l1 l2 l3 (own_sel l0 l1 l2 l3 x)) l0) (own_u 1 x (own_sel l0 l1 l2 l3 (own_sel l0 l1 l2 l3 x)) l1) (own_u 2 x (own_sel l0 l1 l2 l3 (own_sel l0 l1 l2 l3 x)) l2) (own_u 3 x (own_sel l0 l1 l2 l3 (own_sel l0 l1 l2 l3 x)) l3) (own_sel l0 l1 l2 l3 (own_sel l0 l1 l2 l3 x)))) := own_fix s1.1 v1 hi hx4 s1.2 t2
      obtain ⟨TD, LD, XD, ND, eD, stD⟩ := own_lv a1 (Int32.ofNat x) b kA (own_sel (own_u 0 x (own_sel l0 l1 l2 l3 (own_sel l0 l1 l2 l3 x)) l0) (own_u 1 x (own_sel l0 l1 l2 l3 (own_sel l0 l1 l2 l3 x)) l1) (own_u 2 x (own_sel l0 l1 l2 l3 (own_sel l0 l1 l2 l3 x)) l2) (own_u 3 x (own_sel l0 l1 l2 l3 (own_sel l0 l1 l2 l3 x)) l3) (own_sel (own_u 0 x (own_sel l0 l1 l2 l3 (own_sel l0 l1 l2 l3 x)) l0) (own_u 1 x (own_sel l0 l1 l2 l3 (own_sel l0 l1 l2 l3 x)) l1) (own_u 2 x (own_sel l0 l1 l2 l3 (own_sel l0 l1 l2 l3 x)) l2) (own_u 3 x (own_sel l0 l1 l2 l3 (own_sel l0 l1 l2 l3 x)) l3) (own_sel l0 l1 l2 l3 (own_sel l0 l1 l2 l3 x)))) (own_u 0 (own_sel l0 l1 l2 l3 (own_sel l0 l1 l2 l3 x)) (own_sel (own_u 0 x (own_sel l0 l1 l2 l3 (own_sel l0 l1 l2 l3 x)) l0) (own_u 1 x (own_sel l0 l1 l2 l3 (own_sel l0 l1 l2 l3 x)) l1) (own_u 2 x (own_sel l0 l1 l2 l3 (own_sel l0 l1 l2 l3 x)) l2) (own_u 3 x (own_sel l0 l1 l2 l3 (own_sel l0 l1 l2 l3 x)) l3) (own_sel (own_u 0 x (own_sel l0 l1 l2 l3 (own_sel l0 l1 l2 l3 x)) l0) (own_u 1 x (own_sel l0 l1 l2 l3 (own_sel l0 l1 l2 l3 x)) l1) (own_u 2 x (own_sel l0 l1 l2 l3 (own_sel l0 l1 l2 l3 x)) l2) (own_u 3 x (own_sel l0 l1 l2 l3 (own_sel l0 l1 l2 l3 x)) l3) (own_sel l0 l1 l2 l3 (own_sel l0 l1 l2 l3 x)))) (own_u 0 x (own_sel l0 l1 l2 l3 (own_sel l0 l1 l2 l3 x)) l0)) (own_u 1 (own_sel l0 l1 l2 l3 (own_sel l0 l1 l2 l3 x)) (own_sel (own_u 0 x (own_sel l0 l1 l2 l3 (own_sel l0 l1 l2 l3 x)) l0) (own_u 1 x (own_sel l0 l1 l2 l3 (own_sel l0 l1 l2 l3 x)) l1) (own_u 2 x (own_sel l0 l1 l2 l3 (own_sel l0 l1 l2 l3 x)) l2) (own_u 3 x (own_sel l0 l1 l2 l3 (own_sel l0 l1 l2 l3 x)) l3) (own_sel (own_u 0 x (own_sel l0 l1 l2 l3 (own_sel l0 l1 l2 l3 x)) l0) (own_u 1 x (own_sel l0 l1 l2 l3 (own_sel l0 l1 l2 l3 x)) l1) (own_u 2 x (own_sel l0 l1 l2 l3 (own_sel l0 l1 l2 l3 x)) l2) (own_u 3 x (own_sel l0 l1 l2 l3 (own_sel l0 l1 l2 l3 x)) l3) (own_sel l0 l1 l2 l3 (own_sel l0 l1 l2 l3 x)))) (own_u 1 x (own_sel l0 l1 l2 l3 (own_sel l0 l1 l2 l3 x)) l1)) (own_u 2 (own_sel l0 l1 l2 l3 (own_sel l0 l1 l2 l3 x)) (own_sel (own_u 0 x (own_sel l0 l1 l2 l3 (own_sel l0 l1 l2 l3 x)) l0) (own_u 1 x (own_sel l0 l1 l2 l3 (own_sel l0 l1 l2 l3 x)) l1) (own_u 2 x (own_sel l0 l1 l2 l3 (own_sel l0 l1 l2 l3 x)) l2) (own_u 3 x (own_sel l0 l1 l2 l3 (own_sel l0 l1 l2 l3 x)) l3) (own_sel (own_u 0 x (own_sel l0 l1 l2 l3 (own_sel l0 l1 l2 l3 x)) l0) (own_u 1 x (own_sel l0 l1 l2 l3 (own_sel l0 l1 l2 l3 x)) l1) (own_u 2 x (own_sel l0 l1 l2 l3 (own_sel l0 l1 l2 l3 x)) l2) (own_u 3 x (own_sel l0 l1 l2 l3 (own_sel l0 l1 l2 l3 x)) l3) (own_sel l0 l1 l2 l3 (own_sel l0 l1 l2 l3 x)))) (own_u 2 x (own_sel l0 l1 l2 l3 (own_sel l0 l1 l2 l3 x)) l2)) (own_u 3 (own_sel l0 l1 l2 l3 (own_sel l0 l1 l2 l3 x)) (own_sel (own_u 0 x (own_sel l0 l1 l2 l3 (own_sel l0 l1 l2 l3 x)) l0) (own_u 1 x (own_sel l0 l1 l2 l3 (own_sel l0 l1 l2 l3 x)) l1) (own_u 2 x (own_sel l0 l1 l2 l3 (own_sel l0 l1 l2 l3 x)) l2) (own_u 3 x (own_sel l0 l1 l2 l3 (own_sel l0 l1 l2 l3 x)) l3) (own_sel (own_u 0 x (own_sel l0 l1 l2 l3 (own_sel l0 l1 l2 l3 x)) l0) (own_u 1 x (own_sel l0 l1 l2 l3 (own_sel l0 l1 l2 l3 x)) l1) (own_u 2 x (own_sel l0 l1 l2 l3 (own_sel l0 l1 l2 l3 x)) l2) (own_u 3 x (own_sel l0 l1 l2 l3 (own_sel l0 l1 l2 l3 x)) l3) (own_sel l0 l1 l2 l3 (own_sel l0 l1 l2 l3 x)))) (own_u 3 x (own_sel l0 l1 l2 l3 (own_sel l0 l1 l2 l3 x)) l3)) XC hx hZ hw hby hml hown eC ZC NC v2 s2.1.1 EC FC VC hne g_b (by rw [r2])
      obtain ⟨fs, hr, hrun, hended, hW, hsame⟩ := XD.leave (v := some (.int (Int32.ofNat (own_sel (own_u 0 x (own_sel l0 l1 l2 l3 (own_sel l0 l1 l2 l3 x)) l0) (own_u 1 x (own_sel l0 l1 l2 l3 (own_sel l0 l1 l2 l3 x)) l1) (own_u 2 x (own_sel l0 l1 l2 l3 (own_sel l0 l1 l2 l3 x)) l2) (own_u 3 x (own_sel l0 l1 l2 l3 (own_sel l0 l1 l2 l3 x)) l3) (own_sel (own_u 0 x (own_sel l0 l1 l2 l3 (own_sel l0 l1 l2 l3 x)) l0) (own_u 1 x (own_sel l0 l1 l2 l3 (own_sel l0 l1 l2 l3 x)) l1) (own_u 2 x (own_sel l0 l1 l2 l3 (own_sel l0 l1 l2 l3 x)) l2) (own_u 3 x (own_sel l0 l1 l2 l3 (own_sel l0 l1 l2 l3 x)) l3) (own_sel l0 l1 l2 l3 (own_sel l0 l1 l2 l3 x))))))) (fun h => by rw [Bd.returns] at h; cases h)
      refine ⟨_, _, pre0 _ ?_, hrun, hended, _, _, rfl, ?_, ⟨_, rfl⟩, hW, hsame.mono (by decide) (by decide)⟩
      · show Steps p.tables e below (s₁.setTop (mkF m 0 #[.val (.ref a1), .val (.int (Int32.ofNat x)), .unset] [])) _
        refine XS.iloadN X0.here hx rfl (hb hby d7_0) rfl ?_
        show Steps p.tables e below (s₁.setTop (mkF m 1 #[.val (.ref a1), .val (.int (Int32.ofNat x)), .unset] [(.int (Int32.ofNat x))])) _
        refine XS.istoreN X0.here hx rfl (hb hby d7_1) rfl (l' := #[.val (.ref a1), .val (.int (Int32.ofNat x)), .val (.int (Int32.ofNat x))]) rfl ?_
        refine stB _ ?_
        refine stC _ ?_
        refine stD _ ?_
        show Steps p.tables e below (TD.setTop (mkF m 39 #[.val (.ref a1), .val (.int (Int32.ofNat x)), .val (.int (Int32.ofNat (own_sel (own_u 0 x (own_sel l0 l1 l2 l3 (own_sel l0 l1 l2 l3 x)) l0) (own_u 1 x (own_sel l0 l1 l2 l3 (own_sel l0 l1 l2 l3 x)) l1) (own_u 2 x (own_sel l0 l1 l2 l3 (own_sel l0 l1 l2 l3 x)) l2) (own_u 3 x (own_sel l0 l1 l2 l3 (own_sel l0 l1 l2 l3 x)) l3) (own_sel (own_u 0 x (own_sel l0 l1 l2 l3 (own_sel l0 l1 l2 l3 x)) l0) (own_u 1 x (own_sel l0 l1 l2 l3 (own_sel l0 l1 l2 l3 x)) l1) (own_u 2 x (own_sel l0 l1 l2 l3 (own_sel l0 l1 l2 l3 x)) l2) (own_u 3 x (own_sel l0 l1 l2 l3 (own_sel l0 l1 l2 l3 x)) l3) (own_sel l0 l1 l2 l3 (own_sel l0 l1 l2 l3 x))))))] [])) _
        refine XS.iloadN XD.here hx rfl (hb hby d7_39) rfl ?_
        show Steps p.tables e below (TD.setTop (mkF m 40 #[.val (.ref a1), .val (.int (Int32.ofNat x)), .val (.int (Int32.ofNat (own_sel (own_u 0 x (own_sel l0 l1 l2 l3 (own_sel l0 l1 l2 l3 x)) l0) (own_u 1 x (own_sel l0 l1 l2 l3 (own_sel l0 l1 l2 l3 x)) l1) (own_u 2 x (own_sel l0 l1 l2 l3 (own_sel l0 l1 l2 l3 x)) l2) (own_u 3 x (own_sel l0 l1 l2 l3 (own_sel l0 l1 l2 l3 x)) l3) (own_sel (own_u 0 x (own_sel l0 l1 l2 l3 (own_sel l0 l1 l2 l3 x)) l0) (own_u 1 x (own_sel l0 l1 l2 l3 (own_sel l0 l1 l2 l3 x)) l1) (own_u 2 x (own_sel l0 l1 l2 l3 (own_sel l0 l1 l2 l3 x)) l2) (own_u 3 x (own_sel l0 l1 l2 l3 (own_sel l0 l1 l2 l3 x)) l3) (own_sel l0 l1 l2 l3 (own_sel l0 l1 l2 l3 x))))))] [(.int (Int32.ofNat (own_sel (own_u 0 x (own_sel l0 l1 l2 l3 (own_sel l0 l1 l2 l3 x)) l0) (own_u 1 x (own_sel l0 l1 l2 l3 (own_sel l0 l1 l2 l3 x)) l1) (own_u 2 x (own_sel l0 l1 l2 l3 (own_sel l0 l1 l2 l3 x)) l2) (own_u 3 x (own_sel l0 l1 l2 l3 (own_sel l0 l1 l2 l3 x)) l3) (own_sel (own_u 0 x (own_sel l0 l1 l2 l3 (own_sel l0 l1 l2 l3 x)) l0) (own_u 1 x (own_sel l0 l1 l2 l3 (own_sel l0 l1 l2 l3 x)) l1) (own_u 2 x (own_sel l0 l1 l2 l3 (own_sel l0 l1 l2 l3 x)) l2) (own_u 3 x (own_sel l0 l1 l2 l3 (own_sel l0 l1 l2 l3 x)) l3) (own_sel l0 l1 l2 l3 (own_sel l0 l1 l2 l3 x))))))])) _
        exact retI XD hx Bd.returns (hb hby d7_40) hr
      · show Qrm7 Z a1 b kA x l0 l1 l2 l3 h0 n0 _ TD.heap _
        rw [eD]
        exact ⟨(own_u 0 (own_sel l0 l1 l2 l3 (own_sel l0 l1 l2 l3 x)) (own_sel (own_u 0 x (own_sel l0 l1 l2 l3 (own_sel l0 l1 l2 l3 x)) l0) (own_u 1 x (own_sel l0 l1 l2 l3 (own_sel l0 l1 l2 l3 x)) l1) (own_u 2 x (own_sel l0 l1 l2 l3 (own_sel l0 l1 l2 l3 x)) l2) (own_u 3 x (own_sel l0 l1 l2 l3 (own_sel l0 l1 l2 l3 x)) l3) (own_sel (own_u 0 x (own_sel l0 l1 l2 l3 (own_sel l0 l1 l2 l3 x)) l0) (own_u 1 x (own_sel l0 l1 l2 l3 (own_sel l0 l1 l2 l3 x)) l1) (own_u 2 x (own_sel l0 l1 l2 l3 (own_sel l0 l1 l2 l3 x)) l2) (own_u 3 x (own_sel l0 l1 l2 l3 (own_sel l0 l1 l2 l3 x)) l3) (own_sel l0 l1 l2 l3 (own_sel l0 l1 l2 l3 x)))) (own_u 0 x (own_sel l0 l1 l2 l3 (own_sel l0 l1 l2 l3 x)) l0)), (own_u 1 (own_sel l0 l1 l2 l3 (own_sel l0 l1 l2 l3 x)) (own_sel (own_u 0 x (own_sel l0 l1 l2 l3 (own_sel l0 l1 l2 l3 x)) l0) (own_u 1 x (own_sel l0 l1 l2 l3 (own_sel l0 l1 l2 l3 x)) l1) (own_u 2 x (own_sel l0 l1 l2 l3 (own_sel l0 l1 l2 l3 x)) l2) (own_u 3 x (own_sel l0 l1 l2 l3 (own_sel l0 l1 l2 l3 x)) l3) (own_sel (own_u 0 x (own_sel l0 l1 l2 l3 (own_sel l0 l1 l2 l3 x)) l0) (own_u 1 x (own_sel l0 l1 l2 l3 (own_sel l0 l1 l2 l3 x)) l1) (own_u 2 x (own_sel l0 l1 l2 l3 (own_sel l0 l1 l2 l3 x)) l2) (own_u 3 x (own_sel l0 l1 l2 l3 (own_sel l0 l1 l2 l3 x)) l3) (own_sel l0 l1 l2 l3 (own_sel l0 l1 l2 l3 x)))) (own_u 1 x (own_sel l0 l1 l2 l3 (own_sel l0 l1 l2 l3 x)) l1)), (own_u 2 (own_sel l0 l1 l2 l3 (own_sel l0 l1 l2 l3 x)) (own_sel (own_u 0 x (own_sel l0 l1 l2 l3 (own_sel l0 l1 l2 l3 x)) l0) (own_u 1 x (own_sel l0 l1 l2 l3 (own_sel l0 l1 l2 l3 x)) l1) (own_u 2 x (own_sel l0 l1 l2 l3 (own_sel l0 l1 l2 l3 x)) l2) (own_u 3 x (own_sel l0 l1 l2 l3 (own_sel l0 l1 l2 l3 x)) l3) (own_sel (own_u 0 x (own_sel l0 l1 l2 l3 (own_sel l0 l1 l2 l3 x)) l0) (own_u 1 x (own_sel l0 l1 l2 l3 (own_sel l0 l1 l2 l3 x)) l1) (own_u 2 x (own_sel l0 l1 l2 l3 (own_sel l0 l1 l2 l3 x)) l2) (own_u 3 x (own_sel l0 l1 l2 l3 (own_sel l0 l1 l2 l3 x)) l3) (own_sel l0 l1 l2 l3 (own_sel l0 l1 l2 l3 x)))) (own_u 2 x (own_sel l0 l1 l2 l3 (own_sel l0 l1 l2 l3 x)) l2)), (own_u 3 (own_sel l0 l1 l2 l3 (own_sel l0 l1 l2 l3 x)) (own_sel (own_u 0 x (own_sel l0 l1 l2 l3 (own_sel l0 l1 l2 l3 x)) l0) (own_u 1 x (own_sel l0 l1 l2 l3 (own_sel l0 l1 l2 l3 x)) l1) (own_u 2 x (own_sel l0 l1 l2 l3 (own_sel l0 l1 l2 l3 x)) l2) (own_u 3 x (own_sel l0 l1 l2 l3 (own_sel l0 l1 l2 l3 x)) l3) (own_sel (own_u 0 x (own_sel l0 l1 l2 l3 (own_sel l0 l1 l2 l3 x)) l0) (own_u 1 x (own_sel l0 l1 l2 l3 (own_sel l0 l1 l2 l3 x)) l1) (own_u 2 x (own_sel l0 l1 l2 l3 (own_sel l0 l1 l2 l3 x)) l2) (own_u 3 x (own_sel l0 l1 l2 l3 (own_sel l0 l1 l2 l3 x)) l3) (own_sel l0 l1 l2 l3 (own_sel l0 l1 l2 l3 x)))) (own_u 3 x (own_sel l0 l1 l2 l3 (own_sel l0 l1 l2 l3 x)) l3)), by rw [t2], ND, KB.trans KC (allS (Or.inl (List.mem_of_getElem? (i := 0) rfl)) all0), s2.1, fun y hy => (s2.2 y hy).trans (s1.2 y hy), EC, FC, VC⟩
theorem pd_1 : parseMethodDescriptor "(II)V" = some ⟨[.int, .int], none⟩ := by decide +kernel
set_option maxRecDepth 65536 in
set_option maxHeartbeats 40000000 in
theorem own_en0 {p : Program} {l : Launch} {e : Env} {s : State} {m : MethodId} {args : Array Value} {below : List Frame} {meth : Method} {c : Code} {T0 : State} {locs : List Loc} {Z : State} {a0 : Array Value} {h0 : Heap} {n0 : Nat} (p1 p2 : Int32) (bp f b : Addr) (kP kA : ClassId) (g0 g1 g2 g3 : Nat) (y1 y2 y3 y4 y5 y6 y7 : Int32)
    (X0 : Stand p l e room_1 s m args below meth c T0 locs 3 14) (hx : p.tables.exec = Jvm.exec) (hZ : Z.Warmed39 s.vm) (hw : ∀ d ∈ tables_1, d.before a0 Z = true) (hby : c.code = code) (hml : c.maxLocals = 10) (hown : s.vm.findClass "com/example/etape/etape/chart/EnclosureForestOutermostPinLaw" = some m.cls) (e0 : T0.heap = h0) (Z0 : n0 ≤ h0.size) (N0 : Fr n0 locs) (E_f : Exa Z h0 f "com/example/etape/etape/chart/EnclosureForest") (F_l : Fld Z h0 f "com/example/etape/etape/chart/EnclosureForest" "link" "[I" (.ref b)) (V_p : Arv Z h0 bp kP .int (4 : Int32) [(.int (Int32.ofNat g0)), (.int (Int32.ofNat g1)), (.int (Int32.ofNat g2)), (.int (Int32.ofNat g3))] (.int (0 : Int32))) (V_b : Arv Z h0 b kA .int (8 : Int32) [(.int (0 : Int32)), (.int y1), (.int y2), (.int y3), (.int y4), (.int y5), (.int y6), (.int y7)] (.int (0 : Int32))) (hfb : f ≠ b) (hpb : bp ≠ b) (g_b : n0 ≤ b) :
    ∃ (T' : State) (L' : List Loc) (h' : Heap), Stand p l e room_1 s m args below meth c T' L' 3 14 ∧ Fr n0 L' ∧ T'.heap = h' ∧ n0 ≤ h'.size ∧ Keep h0 h' [b] ∧ Exa Z h' f "com/example/etape/etape/chart/EnclosureForest" ∧ Fld Z h' f "com/example/etape/etape/chart/EnclosureForest" "link" "[I" (.ref b) ∧ Arv Z h' bp kP .int (4 : Int32) [(.int (Int32.ofNat g0)), (.int (Int32.ofNat g1)), (.int (Int32.ofNat g2)), (.int (Int32.ofNat g3))] (.int (0 : Int32)) ∧ Arv Z h' b kA .int (8 : Int32) [(.int (Int32.ofNat g0)), (.int y1), (.int y2), (.int y3), (.int y4), (.int y5), (.int y6), (.int y7)] (.int (0 : Int32)) ∧ ∀ target, Steps p.tables e below (T'.setTop (mkF m 107 #[.val (.int p1), .val (.int p2), .val (.ref bp), .val (.ref f), .unset, .unset, .unset, .unset, .unset, .unset] [])) target → Steps p.tables e below (T0.setTop (mkF m 93 #[.val (.int p1), .val (.int p2), .val (.ref bp), .val (.ref f), .unset, .unset, .unset, .unset, .unset, .unset] [])) target := by
  by_cases hc : (Int32.ofNat g0) = (0 : Int32)
  · have V_p' := V_p
    have V_b' := V_b
    obtain ⟨cl1, Ar1, -, S1, M1, Hs1, -⟩ := (id (id V_p))
    have hin1 : ¬ ((0 : Int32) < 0 ∨ cl1.slots.size ≤ ((0 : Int32)).toNatClampNeg) := inb_of S1 ⟨by decide, by decide⟩
    have hat1 : cl1.slots[((0 : Int32)).toNatClampNeg]? = some (.int (Int32.ofNat g0)) := Has.at Hs1 hin1 rfl
    refine ⟨T0, _, h0, X0, N0, e0, Z0, Keep.refl _ _, E_f, F_l, V_p', by rw [hc]; exact V_b', fun target kt => ?_⟩
    show Steps p.tables e below (T0.setTop (mkF m 93 #[.val (.int p1), .val (.int p2), .val (.ref bp), .val (.ref f), .unset, .unset, .unset, .unset, .unset, .unset] [])) _
    refine XS.aloadN X0.here hx rfl (hb hby at_93) rfl rfl ?_
    show Steps p.tables e below (T0.setTop (mkF m 94 #[.val (.int p1), .val (.int p2), .val (.ref bp), .val (.ref f), .unset, .unset, .unset, .unset, .unset, .unset] [(.ref bp)])) _
    refine XS.iconst X0.here hx rfl (hb hby at_94) ?_
    show Steps p.tables e below (T0.setTop (mkF m 95 #[.val (.int p1), .val (.int p2), .val (.ref bp), .val (.ref f), .unset, .unset, .unset, .unset, .unset, .unset] [(.int (0 : Int32)), (.ref bp)])) _
    refine X0.iaload hx (j := (0 : Int32)) (v := (.int (Int32.ofNat g0))) (by rw [e0]; exact Ar1.1) (State.isArrayOf_alike hZ.alike Ar1.2.1) Ar1.2.2 hin1 hat1 (g := (mkF m 95 #[.val (.int p1), .val (.int p2), .val (.ref bp), .val (.ref f), .unset, .unset, .unset, .unset, .unset, .unset] [(.int (0 : Int32)), (.ref bp)])) rfl rfl (hb hby at_95) _ ?_
    show Steps p.tables e below (T0.setTop (mkF m 96 #[.val (.int p1), .val (.int p2), .val (.ref bp), .val (.ref f), .unset, .unset, .unset, .unset, .unset, .unset] [(.int (Int32.ofNat g0))])) _
    refine XS.ifYes X0.here hx rfl (pc0 := 96) (pc' := 107) rfl (hb hby at_96) rfl ((if0 _ _).trans (teq (hc : (Int32.ofNat g0) = (0 : Int32))).1) (by decide) (by decide) ?_
    exact kt
  · have V_p' := V_p
    have V_b' := V_b
    obtain ⟨cl1, Ar1, -, S1, M1, Hs1, -⟩ := (id (id V_p))
    have hin1 : ¬ ((0 : Int32) < 0 ∨ cl1.slots.size ≤ ((0 : Int32)).toNatClampNeg) := inb_of S1 ⟨by decide, by decide⟩
    have hat1 : cl1.slots[((0 : Int32)).toNatClampNeg]? = some (.int (Int32.ofNat g0)) := Has.at Hs1 hin1 rfl
    obtain ⟨cl2, Ar2, -, S2, M2, Hs2, -⟩ := (id (id V_p'))
    have hin2 : ¬ ((0 : Int32) < 0 ∨ cl2.slots.size ≤ ((0 : Int32)).toNatClampNeg) := inb_of S2 ⟨by decide, by decide⟩
    have hat2 : cl2.slots[((0 : Int32)).toNatClampNeg]? = some (.int (Int32.ofNat g0)) := Has.at Hs2 hin2 rfl
    obtain ⟨cq3, kq3, q3a, q3b, q3c⟩ := isOf hZ e0 E_f
    obtain ⟨_, _, ⟨T3, L3, k3, n3⟩, -, X3, ⟨Lc3, hQ3, l3, y3, z3⟩, st3⟩ := X0.virtualBack hx (y := (⟨"com/example/etape/etape/chart/EnclosureForest", "enclose", "(II)V"⟩ : MethodName)) (z := (⟨"com/example/etape/etape/chart/EnclosureForest", "enclose", "(II)V"⟩ : MethodName)) hown (mvT hZ (hw _ (List.mem_of_getElem? (i := 26) rfl))) (mvT hZ (hw _ (List.mem_of_getElem? (i := 27) rfl))) (notFace_of_selects (args := #[]) (mvT hZ (hw _ (List.mem_of_getElem? (i := 29) rfl)))) (mvT hZ (hw _ (List.mem_of_getElem? (i := 29) rfl))) (mvT hZ (hw _ (List.mem_of_getElem? (i := 28) rfl))) (by decide) (backOf (W := 0) (rm6_0 l Z a0 hw [] f (Int32.ofNat g0) b kA (0 : Int32) y1 y2 y3 y4 y5 y6 y7 h0 n0 Z0 E_f g_b hfb F_l V_b') hZ (hw _ (List.mem_of_getElem? (i := 30) rfl)) (hw _ (List.mem_of_getElem? (i := 10) rfl)) (by decide) (by decide)) q3a q3c (g := (mkF m 104 #[.val (.int p1), .val (.int p2), .val (.ref bp), .val (.ref f), .unset, .unset, .unset, .unset, .unset, .unset] [(.int (Int32.ofNat g0)), (.int (0 : Int32)), (.ref f)])) rfl (by rw [hml]; rfl) (Steps.refl _) (argsL := [(.int (0 : Int32)), (.int (Int32.ofNat g0))]) (rest := []) (lenOf pd_1 rfl) rfl (by show 2 * 0 + _ ≤ _; exact Nat.le_of_eq rfl) (hb hby at_104) (fun _ _ => ⟨rfl, e0, (by decide : 3 + 0 ≤ _), (by decide : 14 + 0 ≤ _)⟩)
    dsimp only [Pt.U, Pt.locs, Pt.cells, Pt.slots] at X3 l3 y3 z3 st3 hQ3
    subst l3 y3 z3
    obtain ⟨rfl, N3q, K3, Ec3, Fc3, Vc3⟩ := hQ3
    have N3 := Fr.app N0 N3q
    have Z4 : n0 ≤ T3.heap.size := Nat.le_trans Z0 K3.1
    have f5 := V_p'.keep K3 (ninS hpb nin0)
    refine ⟨T3, _, T3.heap, X3, N3, rfl, Z4, K3, Ec3, Fc3, f5, Vc3, fun target kt => ?_⟩
    show Steps p.tables e below (T0.setTop (mkF m 93 #[.val (.int p1), .val (.int p2), .val (.ref bp), .val (.ref f), .unset, .unset, .unset, .unset, .unset, .unset] [])) _
    refine XS.aloadN X0.here hx rfl (hb hby at_93) rfl rfl ?_
    show Steps p.tables e below (T0.setTop (mkF m 94 #[.val (.int p1), .val (.int p2), .val (.ref bp), .val (.ref f), .unset, .unset, .unset, .unset, .unset, .unset] [(.ref bp)])) _
    refine XS.iconst X0.here hx rfl (hb hby at_94) ?_
    show Steps p.tables e below (T0.setTop (mkF m 95 #[.val (.int p1), .val (.int p2), .val (.ref bp), .val (.ref f), .unset, .unset, .unset, .unset, .unset, .unset] [(.int (0 : Int32)), (.ref bp)])) _
    refine X0.iaload hx (j := (0 : Int32)) (v := (.int (Int32.ofNat g0))) (by rw [e0]; exact Ar1.1) (State.isArrayOf_alike hZ.alike Ar1.2.1) Ar1.2.2 hin1 hat1 (g := (mkF m 95 #[.val (.int p1), .val (.int p2), .val (.ref bp), .val (.ref f), .unset, .unset, .unset, .unset, .unset, .unset] [(.int (0 : Int32)), (.ref bp)])) rfl rfl (hb hby at_95) _ ?_
    show Steps p.tables e below (T0.setTop (mkF m 96 #[.val (.int p1), .val (.int p2), .val (.ref bp), .val (.ref f), .unset, .unset, .unset, .unset, .unset, .unset] [(.int (Int32.ofNat g0))])) _
    refine XS.ifNo X0.here hx rfl (hb hby at_96) rfl ((if0 _ _).trans (feq (hc : ¬ ((Int32.ofNat g0) = (0 : Int32)))).1) ?_
    show Steps p.tables e below (T0.setTop (mkF m 99 #[.val (.int p1), .val (.int p2), .val (.ref bp), .val (.ref f), .unset, .unset, .unset, .unset, .unset, .unset] [])) _
    refine XS.aloadN X0.here hx rfl (hb hby at_99) rfl rfl ?_
    show Steps p.tables e below (T0.setTop (mkF m 100 #[.val (.int p1), .val (.int p2), .val (.ref bp), .val (.ref f), .unset, .unset, .unset, .unset, .unset, .unset] [(.ref f)])) _
    refine XS.iconst X0.here hx rfl (hb hby at_100) ?_
    show Steps p.tables e below (T0.setTop (mkF m 101 #[.val (.int p1), .val (.int p2), .val (.ref bp), .val (.ref f), .unset, .unset, .unset, .unset, .unset, .unset] [(.int (0 : Int32)), (.ref f)])) _
    refine XS.aloadN X0.here hx rfl (hb hby at_101) rfl rfl ?_
    show Steps p.tables e below (T0.setTop (mkF m 102 #[.val (.int p1), .val (.int p2), .val (.ref bp), .val (.ref f), .unset, .unset, .unset, .unset, .unset, .unset] [(.ref bp), (.int (0 : Int32)), (.ref f)])) _
    refine XS.iconst X0.here hx rfl (hb hby at_102) ?_
    show Steps p.tables e below (T0.setTop (mkF m 103 #[.val (.int p1), .val (.int p2), .val (.ref bp), .val (.ref f), .unset, .unset, .unset, .unset, .unset, .unset] [(.int (0 : Int32)), (.ref bp), (.int (0 : Int32)), (.ref f)])) _
    refine X0.iaload hx (j := (0 : Int32)) (v := (.int (Int32.ofNat g0))) (by rw [e0]; exact Ar2.1) (State.isArrayOf_alike hZ.alike Ar2.2.1) Ar2.2.2 hin2 hat2 (g := (mkF m 103 #[.val (.int p1), .val (.int p2), .val (.ref bp), .val (.ref f), .unset, .unset, .unset, .unset, .unset, .unset] [(.int (0 : Int32)), (.ref bp), (.int (0 : Int32)), (.ref f)])) rfl rfl (hb hby at_103) _ ?_
    show Steps p.tables e below (T0.setTop (mkF m 104 #[.val (.int p1), .val (.int p2), .val (.ref bp), .val (.ref f), .unset, .unset, .unset, .unset, .unset, .unset] [(.int (Int32.ofNat g0)), (.int (0 : Int32)), (.ref f)])) _
    refine st3.trans ?_
    exact kt
set_option maxRecDepth 65536 in
set_option maxHeartbeats 40000000 in
theorem own_en1 {p : Program} {l : Launch} {e : Env} {s : State} {m : MethodId} {args : Array Value} {below : List Frame} {meth : Method} {c : Code} {T0 : State} {locs : List Loc} {Z : State} {a0 : Array Value} {h0 : Heap} {n0 : Nat} (p1 p2 : Int32) (bp f b : Addr) (kP kA : ClassId) (g0 g1 g2 g3 : Nat) (y0 y2 y3 y4 y5 y6 y7 : Int32)
    (X0 : Stand p l e room_1 s m args below meth c T0 locs 3 14) (hx : p.tables.exec = Jvm.exec) (hZ : Z.Warmed39 s.vm) (hw : ∀ d ∈ tables_1, d.before a0 Z = true) (hby : c.code = code) (hml : c.maxLocals = 10) (hown : s.vm.findClass "com/example/etape/etape/chart/EnclosureForestOutermostPinLaw" = some m.cls) (e0 : T0.heap = h0) (Z0 : n0 ≤ h0.size) (N0 : Fr n0 locs) (E_f : Exa Z h0 f "com/example/etape/etape/chart/EnclosureForest") (F_l : Fld Z h0 f "com/example/etape/etape/chart/EnclosureForest" "link" "[I" (.ref b)) (V_p : Arv Z h0 bp kP .int (4 : Int32) [(.int (Int32.ofNat g0)), (.int (Int32.ofNat g1)), (.int (Int32.ofNat g2)), (.int (Int32.ofNat g3))] (.int (0 : Int32))) (V_b : Arv Z h0 b kA .int (8 : Int32) [(.int y0), (.int (1 : Int32)), (.int y2), (.int y3), (.int y4), (.int y5), (.int y6), (.int y7)] (.int (0 : Int32))) (hfb : f ≠ b) (hpb : bp ≠ b) (g_b : n0 ≤ b) :
    ∃ (T' : State) (L' : List Loc) (h' : Heap), Stand p l e room_1 s m args below meth c T' L' 3 14 ∧ Fr n0 L' ∧ T'.heap = h' ∧ n0 ≤ h'.size ∧ Keep h0 h' [b] ∧ Exa Z h' f "com/example/etape/etape/chart/EnclosureForest" ∧ Fld Z h' f "com/example/etape/etape/chart/EnclosureForest" "link" "[I" (.ref b) ∧ Arv Z h' bp kP .int (4 : Int32) [(.int (Int32.ofNat g0)), (.int (Int32.ofNat g1)), (.int (Int32.ofNat g2)), (.int (Int32.ofNat g3))] (.int (0 : Int32)) ∧ Arv Z h' b kA .int (8 : Int32) [(.int y0), (.int (Int32.ofNat g1)), (.int y2), (.int y3), (.int y4), (.int y5), (.int y6), (.int y7)] (.int (0 : Int32)) ∧ ∀ target, Steps p.tables e below (T'.setTop (mkF m 122 #[.val (.int p1), .val (.int p2), .val (.ref bp), .val (.ref f), .unset, .unset, .unset, .unset, .unset, .unset] [])) target → Steps p.tables e below (T0.setTop (mkF m 107 #[.val (.int p1), .val (.int p2), .val (.ref bp), .val (.ref f), .unset, .unset, .unset, .unset, .unset, .unset] [])) target := by
  by_cases hc : (Int32.ofNat g1) = (1 : Int32)
  · have V_p' := V_p
    have V_b' := V_b
    obtain ⟨cl1, Ar1, -, S1, M1, Hs1, -⟩ := (id (id V_p))
    have hin1 : ¬ ((1 : Int32) < 0 ∨ cl1.slots.size ≤ ((1 : Int32)).toNatClampNeg) := inb_of S1 ⟨by decide, by decide⟩
    have hat1 : cl1.slots[((1 : Int32)).toNatClampNeg]? = some (.int (Int32.ofNat g1)) := Has.at Hs1 hin1 rfl
    refine ⟨T0, _, h0, X0, N0, e0, Z0, Keep.refl _ _, E_f, F_l, V_p', by rw [hc]; exact V_b', fun target kt => ?_⟩
    show Steps p.tables e below (T0.setTop (mkF m 107 #[.val (.int p1), .val (.int p2), .val (.ref bp), .val (.ref f), .unset, .unset, .unset, .unset, .unset, .unset] [])) _
    refine XS.aloadN X0.here hx rfl (hb hby at_107) rfl rfl ?_
    show Steps p.tables e below (T0.setTop (mkF m 108 #[.val (.int p1), .val (.int p2), .val (.ref bp), .val (.ref f), .unset, .unset, .unset, .unset, .unset, .unset] [(.ref bp)])) _
    refine XS.iconst X0.here hx rfl (hb hby at_108) ?_
    show Steps p.tables e below (T0.setTop (mkF m 109 #[.val (.int p1), .val (.int p2), .val (.ref bp), .val (.ref f), .unset, .unset, .unset, .unset, .unset, .unset] [(.int (1 : Int32)), (.ref bp)])) _
    refine X0.iaload hx (j := (1 : Int32)) (v := (.int (Int32.ofNat g1))) (by rw [e0]; exact Ar1.1) (State.isArrayOf_alike hZ.alike Ar1.2.1) Ar1.2.2 hin1 hat1 (g := (mkF m 109 #[.val (.int p1), .val (.int p2), .val (.ref bp), .val (.ref f), .unset, .unset, .unset, .unset, .unset, .unset] [(.int (1 : Int32)), (.ref bp)])) rfl rfl (hb hby at_109) _ ?_
    show Steps p.tables e below (T0.setTop (mkF m 110 #[.val (.int p1), .val (.int p2), .val (.ref bp), .val (.ref f), .unset, .unset, .unset, .unset, .unset, .unset] [(.int (Int32.ofNat g1))])) _
    refine XS.iconst X0.here hx rfl (hb hby at_110) ?_
    show Steps p.tables e below (T0.setTop (mkF m 111 #[.val (.int p1), .val (.int p2), .val (.ref bp), .val (.ref f), .unset, .unset, .unset, .unset, .unset, .unset] [(.int (1 : Int32)), (.int (Int32.ofNat g1))])) _
    refine XS.icmpYes X0.here hx rfl (pc0 := 111) (pc' := 122) rfl (hb hby at_111) rfl (teq (hc : (Int32.ofNat g1) = (1 : Int32))).1 (by decide) (by decide) ?_
    exact kt
  · have V_p' := V_p
    have V_b' := V_b
    obtain ⟨cl1, Ar1, -, S1, M1, Hs1, -⟩ := (id (id V_p))
    have hin1 : ¬ ((1 : Int32) < 0 ∨ cl1.slots.size ≤ ((1 : Int32)).toNatClampNeg) := inb_of S1 ⟨by decide, by decide⟩
    have hat1 : cl1.slots[((1 : Int32)).toNatClampNeg]? = some (.int (Int32.ofNat g1)) := Has.at Hs1 hin1 rfl
    obtain ⟨cl2, Ar2, -, S2, M2, Hs2, -⟩ := (id (id V_p'))
    have hin2 : ¬ ((1 : Int32) < 0 ∨ cl2.slots.size ≤ ((1 : Int32)).toNatClampNeg) := inb_of S2 ⟨by decide, by decide⟩
    have hat2 : cl2.slots[((1 : Int32)).toNatClampNeg]? = some (.int (Int32.ofNat g1)) := Has.at Hs2 hin2 rfl
    obtain ⟨cq3, kq3, q3a, q3b, q3c⟩ := isOf hZ e0 E_f
    obtain ⟨_, _, ⟨T3, L3, k3, n3⟩, -, X3, ⟨Lc3, hQ3, l3, y3, z3⟩, st3⟩ := X0.virtualBack hx (y := (⟨"com/example/etape/etape/chart/EnclosureForest", "enclose", "(II)V"⟩ : MethodName)) (z := (⟨"com/example/etape/etape/chart/EnclosureForest", "enclose", "(II)V"⟩ : MethodName)) hown (mvT hZ (hw _ (List.mem_of_getElem? (i := 26) rfl))) (mvT hZ (hw _ (List.mem_of_getElem? (i := 27) rfl))) (notFace_of_selects (args := #[]) (mvT hZ (hw _ (List.mem_of_getElem? (i := 29) rfl)))) (mvT hZ (hw _ (List.mem_of_getElem? (i := 29) rfl))) (mvT hZ (hw _ (List.mem_of_getElem? (i := 28) rfl))) (by decide) (backOf (W := 0) (rm6_1 l Z a0 hw [] f (Int32.ofNat g1) b kA y0 (1 : Int32) y2 y3 y4 y5 y6 y7 h0 n0 Z0 E_f g_b hfb F_l V_b') hZ (hw _ (List.mem_of_getElem? (i := 30) rfl)) (hw _ (List.mem_of_getElem? (i := 10) rfl)) (by decide) (by decide)) q3a q3c (g := (mkF m 119 #[.val (.int p1), .val (.int p2), .val (.ref bp), .val (.ref f), .unset, .unset, .unset, .unset, .unset, .unset] [(.int (Int32.ofNat g1)), (.int (1 : Int32)), (.ref f)])) rfl (by rw [hml]; rfl) (Steps.refl _) (argsL := [(.int (1 : Int32)), (.int (Int32.ofNat g1))]) (rest := []) (lenOf pd_1 rfl) rfl (by show 2 * 0 + _ ≤ _; exact Nat.le_of_eq rfl) (hb hby at_119) (fun _ _ => ⟨rfl, e0, (by decide : 3 + 0 ≤ _), (by decide : 14 + 0 ≤ _)⟩)
    dsimp only [Pt.U, Pt.locs, Pt.cells, Pt.slots] at X3 l3 y3 z3 st3 hQ3
    subst l3 y3 z3
    obtain ⟨rfl, N3q, K3, Ec3, Fc3, Vc3⟩ := hQ3
    have N3 := Fr.app N0 N3q
    have Z4 : n0 ≤ T3.heap.size := Nat.le_trans Z0 K3.1
    have f5 := V_p'.keep K3 (ninS hpb nin0)
    refine ⟨T3, _, T3.heap, X3, N3, rfl, Z4, K3, Ec3, Fc3, f5, Vc3, fun target kt => ?_⟩
    show Steps p.tables e below (T0.setTop (mkF m 107 #[.val (.int p1), .val (.int p2), .val (.ref bp), .val (.ref f), .unset, .unset, .unset, .unset, .unset, .unset] [])) _
    refine XS.aloadN X0.here hx rfl (hb hby at_107) rfl rfl ?_
    show Steps p.tables e below (T0.setTop (mkF m 108 #[.val (.int p1), .val (.int p2), .val (.ref bp), .val (.ref f), .unset, .unset, .unset, .unset, .unset, .unset] [(.ref bp)])) _
    refine XS.iconst X0.here hx rfl (hb hby at_108) ?_
    show Steps p.tables e below (T0.setTop (mkF m 109 #[.val (.int p1), .val (.int p2), .val (.ref bp), .val (.ref f), .unset, .unset, .unset, .unset, .unset, .unset] [(.int (1 : Int32)), (.ref bp)])) _
    refine X0.iaload hx (j := (1 : Int32)) (v := (.int (Int32.ofNat g1))) (by rw [e0]; exact Ar1.1) (State.isArrayOf_alike hZ.alike Ar1.2.1) Ar1.2.2 hin1 hat1 (g := (mkF m 109 #[.val (.int p1), .val (.int p2), .val (.ref bp), .val (.ref f), .unset, .unset, .unset, .unset, .unset, .unset] [(.int (1 : Int32)), (.ref bp)])) rfl rfl (hb hby at_109) _ ?_
    show Steps p.tables e below (T0.setTop (mkF m 110 #[.val (.int p1), .val (.int p2), .val (.ref bp), .val (.ref f), .unset, .unset, .unset, .unset, .unset, .unset] [(.int (Int32.ofNat g1))])) _
    refine XS.iconst X0.here hx rfl (hb hby at_110) ?_
    show Steps p.tables e below (T0.setTop (mkF m 111 #[.val (.int p1), .val (.int p2), .val (.ref bp), .val (.ref f), .unset, .unset, .unset, .unset, .unset, .unset] [(.int (1 : Int32)), (.int (Int32.ofNat g1))])) _
    refine XS.icmpNo X0.here hx rfl (hb hby at_111) rfl (feq (hc : ¬ ((Int32.ofNat g1) = (1 : Int32)))).1 ?_
    show Steps p.tables e below (T0.setTop (mkF m 114 #[.val (.int p1), .val (.int p2), .val (.ref bp), .val (.ref f), .unset, .unset, .unset, .unset, .unset, .unset] [])) _
    refine XS.aloadN X0.here hx rfl (hb hby at_114) rfl rfl ?_
    show Steps p.tables e below (T0.setTop (mkF m 115 #[.val (.int p1), .val (.int p2), .val (.ref bp), .val (.ref f), .unset, .unset, .unset, .unset, .unset, .unset] [(.ref f)])) _
    refine XS.iconst X0.here hx rfl (hb hby at_115) ?_
    show Steps p.tables e below (T0.setTop (mkF m 116 #[.val (.int p1), .val (.int p2), .val (.ref bp), .val (.ref f), .unset, .unset, .unset, .unset, .unset, .unset] [(.int (1 : Int32)), (.ref f)])) _
    refine XS.aloadN X0.here hx rfl (hb hby at_116) rfl rfl ?_
    show Steps p.tables e below (T0.setTop (mkF m 117 #[.val (.int p1), .val (.int p2), .val (.ref bp), .val (.ref f), .unset, .unset, .unset, .unset, .unset, .unset] [(.ref bp), (.int (1 : Int32)), (.ref f)])) _
    refine XS.iconst X0.here hx rfl (hb hby at_117) ?_
    show Steps p.tables e below (T0.setTop (mkF m 118 #[.val (.int p1), .val (.int p2), .val (.ref bp), .val (.ref f), .unset, .unset, .unset, .unset, .unset, .unset] [(.int (1 : Int32)), (.ref bp), (.int (1 : Int32)), (.ref f)])) _
    refine X0.iaload hx (j := (1 : Int32)) (v := (.int (Int32.ofNat g1))) (by rw [e0]; exact Ar2.1) (State.isArrayOf_alike hZ.alike Ar2.2.1) Ar2.2.2 hin2 hat2 (g := (mkF m 118 #[.val (.int p1), .val (.int p2), .val (.ref bp), .val (.ref f), .unset, .unset, .unset, .unset, .unset, .unset] [(.int (1 : Int32)), (.ref bp), (.int (1 : Int32)), (.ref f)])) rfl rfl (hb hby at_118) _ ?_
    show Steps p.tables e below (T0.setTop (mkF m 119 #[.val (.int p1), .val (.int p2), .val (.ref bp), .val (.ref f), .unset, .unset, .unset, .unset, .unset, .unset] [(.int (Int32.ofNat g1)), (.int (1 : Int32)), (.ref f)])) _
    refine st3.trans ?_
    exact kt
set_option maxRecDepth 65536 in
set_option maxHeartbeats 40000000 in
theorem own_en2 {p : Program} {l : Launch} {e : Env} {s : State} {m : MethodId} {args : Array Value} {below : List Frame} {meth : Method} {c : Code} {T0 : State} {locs : List Loc} {Z : State} {a0 : Array Value} {h0 : Heap} {n0 : Nat} (p1 p2 : Int32) (bp f b : Addr) (kP kA : ClassId) (g0 g1 g2 g3 : Nat) (y0 y1 y3 y4 y5 y6 y7 : Int32)
    (X0 : Stand p l e room_1 s m args below meth c T0 locs 3 14) (hx : p.tables.exec = Jvm.exec) (hZ : Z.Warmed39 s.vm) (hw : ∀ d ∈ tables_1, d.before a0 Z = true) (hby : c.code = code) (hml : c.maxLocals = 10) (hown : s.vm.findClass "com/example/etape/etape/chart/EnclosureForestOutermostPinLaw" = some m.cls) (e0 : T0.heap = h0) (Z0 : n0 ≤ h0.size) (N0 : Fr n0 locs) (E_f : Exa Z h0 f "com/example/etape/etape/chart/EnclosureForest") (F_l : Fld Z h0 f "com/example/etape/etape/chart/EnclosureForest" "link" "[I" (.ref b)) (V_p : Arv Z h0 bp kP .int (4 : Int32) [(.int (Int32.ofNat g0)), (.int (Int32.ofNat g1)), (.int (Int32.ofNat g2)), (.int (Int32.ofNat g3))] (.int (0 : Int32))) (V_b : Arv Z h0 b kA .int (8 : Int32) [(.int y0), (.int y1), (.int (2 : Int32)), (.int y3), (.int y4), (.int y5), (.int y6), (.int y7)] (.int (0 : Int32))) (hfb : f ≠ b) (hpb : bp ≠ b) (g_b : n0 ≤ b) :
    ∃ (T' : State) (L' : List Loc) (h' : Heap), Stand p l e room_1 s m args below meth c T' L' 3 14 ∧ Fr n0 L' ∧ T'.heap = h' ∧ n0 ≤ h'.size ∧ Keep h0 h' [b] ∧ Exa Z h' f "com/example/etape/etape/chart/EnclosureForest" ∧ Fld Z h' f "com/example/etape/etape/chart/EnclosureForest" "link" "[I" (.ref b) ∧ Arv Z h' bp kP .int (4 : Int32) [(.int (Int32.ofNat g0)), (.int (Int32.ofNat g1)), (.int (Int32.ofNat g2)), (.int (Int32.ofNat g3))] (.int (0 : Int32)) ∧ Arv Z h' b kA .int (8 : Int32) [(.int y0), (.int y1), (.int (Int32.ofNat g2)), (.int y3), (.int y4), (.int y5), (.int y6), (.int y7)] (.int (0 : Int32)) ∧ ∀ target, Steps p.tables e below (T'.setTop (mkF m 137 #[.val (.int p1), .val (.int p2), .val (.ref bp), .val (.ref f), .unset, .unset, .unset, .unset, .unset, .unset] [])) target → Steps p.tables e below (T0.setTop (mkF m 122 #[.val (.int p1), .val (.int p2), .val (.ref bp), .val (.ref f), .unset, .unset, .unset, .unset, .unset, .unset] [])) target := by
  by_cases hc : (Int32.ofNat g2) = (2 : Int32)
  · have V_p' := V_p
    have V_b' := V_b
    obtain ⟨cl1, Ar1, -, S1, M1, Hs1, -⟩ := (id (id V_p))
    have hin1 : ¬ ((2 : Int32) < 0 ∨ cl1.slots.size ≤ ((2 : Int32)).toNatClampNeg) := inb_of S1 ⟨by decide, by decide⟩
    have hat1 : cl1.slots[((2 : Int32)).toNatClampNeg]? = some (.int (Int32.ofNat g2)) := Has.at Hs1 hin1 rfl
    refine ⟨T0, _, h0, X0, N0, e0, Z0, Keep.refl _ _, E_f, F_l, V_p', by rw [hc]; exact V_b', fun target kt => ?_⟩
    show Steps p.tables e below (T0.setTop (mkF m 122 #[.val (.int p1), .val (.int p2), .val (.ref bp), .val (.ref f), .unset, .unset, .unset, .unset, .unset, .unset] [])) _
    refine XS.aloadN X0.here hx rfl (hb hby at_122) rfl rfl ?_
    show Steps p.tables e below (T0.setTop (mkF m 123 #[.val (.int p1), .val (.int p2), .val (.ref bp), .val (.ref f), .unset, .unset, .unset, .unset, .unset, .unset] [(.ref bp)])) _
    refine XS.iconst X0.here hx rfl (hb hby at_123) ?_
    show Steps p.tables e below (T0.setTop (mkF m 124 #[.val (.int p1), .val (.int p2), .val (.ref bp), .val (.ref f), .unset, .unset, .unset, .unset, .unset, .unset] [(.int (2 : Int32)), (.ref bp)])) _
    refine X0.iaload hx (j := (2 : Int32)) (v := (.int (Int32.ofNat g2))) (by rw [e0]; exact Ar1.1) (State.isArrayOf_alike hZ.alike Ar1.2.1) Ar1.2.2 hin1 hat1 (g := (mkF m 124 #[.val (.int p1), .val (.int p2), .val (.ref bp), .val (.ref f), .unset, .unset, .unset, .unset, .unset, .unset] [(.int (2 : Int32)), (.ref bp)])) rfl rfl (hb hby at_124) _ ?_
    show Steps p.tables e below (T0.setTop (mkF m 125 #[.val (.int p1), .val (.int p2), .val (.ref bp), .val (.ref f), .unset, .unset, .unset, .unset, .unset, .unset] [(.int (Int32.ofNat g2))])) _
    refine XS.iconst X0.here hx rfl (hb hby at_125) ?_
    show Steps p.tables e below (T0.setTop (mkF m 126 #[.val (.int p1), .val (.int p2), .val (.ref bp), .val (.ref f), .unset, .unset, .unset, .unset, .unset, .unset] [(.int (2 : Int32)), (.int (Int32.ofNat g2))])) _
    refine XS.icmpYes X0.here hx rfl (pc0 := 126) (pc' := 137) rfl (hb hby at_126) rfl (teq (hc : (Int32.ofNat g2) = (2 : Int32))).1 (by decide) (by decide) ?_
    exact kt
  · have V_p' := V_p
    have V_b' := V_b
    obtain ⟨cl1, Ar1, -, S1, M1, Hs1, -⟩ := (id (id V_p))
    have hin1 : ¬ ((2 : Int32) < 0 ∨ cl1.slots.size ≤ ((2 : Int32)).toNatClampNeg) := inb_of S1 ⟨by decide, by decide⟩
    have hat1 : cl1.slots[((2 : Int32)).toNatClampNeg]? = some (.int (Int32.ofNat g2)) := Has.at Hs1 hin1 rfl
    obtain ⟨cl2, Ar2, -, S2, M2, Hs2, -⟩ := (id (id V_p'))
    have hin2 : ¬ ((2 : Int32) < 0 ∨ cl2.slots.size ≤ ((2 : Int32)).toNatClampNeg) := inb_of S2 ⟨by decide, by decide⟩
    have hat2 : cl2.slots[((2 : Int32)).toNatClampNeg]? = some (.int (Int32.ofNat g2)) := Has.at Hs2 hin2 rfl
    obtain ⟨cq3, kq3, q3a, q3b, q3c⟩ := isOf hZ e0 E_f
    obtain ⟨_, _, ⟨T3, L3, k3, n3⟩, -, X3, ⟨Lc3, hQ3, l3, y3, z3⟩, st3⟩ := X0.virtualBack hx (y := (⟨"com/example/etape/etape/chart/EnclosureForest", "enclose", "(II)V"⟩ : MethodName)) (z := (⟨"com/example/etape/etape/chart/EnclosureForest", "enclose", "(II)V"⟩ : MethodName)) hown (mvT hZ (hw _ (List.mem_of_getElem? (i := 26) rfl))) (mvT hZ (hw _ (List.mem_of_getElem? (i := 27) rfl))) (notFace_of_selects (args := #[]) (mvT hZ (hw _ (List.mem_of_getElem? (i := 29) rfl)))) (mvT hZ (hw _ (List.mem_of_getElem? (i := 29) rfl))) (mvT hZ (hw _ (List.mem_of_getElem? (i := 28) rfl))) (by decide) (backOf (W := 0) (rm6_2 l Z a0 hw [] f (Int32.ofNat g2) b kA y0 y1 (2 : Int32) y3 y4 y5 y6 y7 h0 n0 Z0 E_f g_b hfb F_l V_b') hZ (hw _ (List.mem_of_getElem? (i := 30) rfl)) (hw _ (List.mem_of_getElem? (i := 10) rfl)) (by decide) (by decide)) q3a q3c (g := (mkF m 134 #[.val (.int p1), .val (.int p2), .val (.ref bp), .val (.ref f), .unset, .unset, .unset, .unset, .unset, .unset] [(.int (Int32.ofNat g2)), (.int (2 : Int32)), (.ref f)])) rfl (by rw [hml]; rfl) (Steps.refl _) (argsL := [(.int (2 : Int32)), (.int (Int32.ofNat g2))]) (rest := []) (lenOf pd_1 rfl) rfl (by show 2 * 0 + _ ≤ _; exact Nat.le_of_eq rfl) (hb hby at_134) (fun _ _ => ⟨rfl, e0, (by decide : 3 + 0 ≤ _), (by decide : 14 + 0 ≤ _)⟩)
    dsimp only [Pt.U, Pt.locs, Pt.cells, Pt.slots] at X3 l3 y3 z3 st3 hQ3
    subst l3 y3 z3
    obtain ⟨rfl, N3q, K3, Ec3, Fc3, Vc3⟩ := hQ3
    have N3 := Fr.app N0 N3q
    have Z4 : n0 ≤ T3.heap.size := Nat.le_trans Z0 K3.1
    have f5 := V_p'.keep K3 (ninS hpb nin0)
    refine ⟨T3, _, T3.heap, X3, N3, rfl, Z4, K3, Ec3, Fc3, f5, Vc3, fun target kt => ?_⟩
    show Steps p.tables e below (T0.setTop (mkF m 122 #[.val (.int p1), .val (.int p2), .val (.ref bp), .val (.ref f), .unset, .unset, .unset, .unset, .unset, .unset] [])) _
    refine XS.aloadN X0.here hx rfl (hb hby at_122) rfl rfl ?_
    show Steps p.tables e below (T0.setTop (mkF m 123 #[.val (.int p1), .val (.int p2), .val (.ref bp), .val (.ref f), .unset, .unset, .unset, .unset, .unset, .unset] [(.ref bp)])) _
    refine XS.iconst X0.here hx rfl (hb hby at_123) ?_
    show Steps p.tables e below (T0.setTop (mkF m 124 #[.val (.int p1), .val (.int p2), .val (.ref bp), .val (.ref f), .unset, .unset, .unset, .unset, .unset, .unset] [(.int (2 : Int32)), (.ref bp)])) _
    refine X0.iaload hx (j := (2 : Int32)) (v := (.int (Int32.ofNat g2))) (by rw [e0]; exact Ar1.1) (State.isArrayOf_alike hZ.alike Ar1.2.1) Ar1.2.2 hin1 hat1 (g := (mkF m 124 #[.val (.int p1), .val (.int p2), .val (.ref bp), .val (.ref f), .unset, .unset, .unset, .unset, .unset, .unset] [(.int (2 : Int32)), (.ref bp)])) rfl rfl (hb hby at_124) _ ?_
    show Steps p.tables e below (T0.setTop (mkF m 125 #[.val (.int p1), .val (.int p2), .val (.ref bp), .val (.ref f), .unset, .unset, .unset, .unset, .unset, .unset] [(.int (Int32.ofNat g2))])) _
    refine XS.iconst X0.here hx rfl (hb hby at_125) ?_
    show Steps p.tables e below (T0.setTop (mkF m 126 #[.val (.int p1), .val (.int p2), .val (.ref bp), .val (.ref f), .unset, .unset, .unset, .unset, .unset, .unset] [(.int (2 : Int32)), (.int (Int32.ofNat g2))])) _
    refine XS.icmpNo X0.here hx rfl (hb hby at_126) rfl (feq (hc : ¬ ((Int32.ofNat g2) = (2 : Int32)))).1 ?_
    show Steps p.tables e below (T0.setTop (mkF m 129 #[.val (.int p1), .val (.int p2), .val (.ref bp), .val (.ref f), .unset, .unset, .unset, .unset, .unset, .unset] [])) _
    refine XS.aloadN X0.here hx rfl (hb hby at_129) rfl rfl ?_
    show Steps p.tables e below (T0.setTop (mkF m 130 #[.val (.int p1), .val (.int p2), .val (.ref bp), .val (.ref f), .unset, .unset, .unset, .unset, .unset, .unset] [(.ref f)])) _
    refine XS.iconst X0.here hx rfl (hb hby at_130) ?_
    show Steps p.tables e below (T0.setTop (mkF m 131 #[.val (.int p1), .val (.int p2), .val (.ref bp), .val (.ref f), .unset, .unset, .unset, .unset, .unset, .unset] [(.int (2 : Int32)), (.ref f)])) _
    refine XS.aloadN X0.here hx rfl (hb hby at_131) rfl rfl ?_
    show Steps p.tables e below (T0.setTop (mkF m 132 #[.val (.int p1), .val (.int p2), .val (.ref bp), .val (.ref f), .unset, .unset, .unset, .unset, .unset, .unset] [(.ref bp), (.int (2 : Int32)), (.ref f)])) _
    refine XS.iconst X0.here hx rfl (hb hby at_132) ?_
    show Steps p.tables e below (T0.setTop (mkF m 133 #[.val (.int p1), .val (.int p2), .val (.ref bp), .val (.ref f), .unset, .unset, .unset, .unset, .unset, .unset] [(.int (2 : Int32)), (.ref bp), (.int (2 : Int32)), (.ref f)])) _
    refine X0.iaload hx (j := (2 : Int32)) (v := (.int (Int32.ofNat g2))) (by rw [e0]; exact Ar2.1) (State.isArrayOf_alike hZ.alike Ar2.2.1) Ar2.2.2 hin2 hat2 (g := (mkF m 133 #[.val (.int p1), .val (.int p2), .val (.ref bp), .val (.ref f), .unset, .unset, .unset, .unset, .unset, .unset] [(.int (2 : Int32)), (.ref bp), (.int (2 : Int32)), (.ref f)])) rfl rfl (hb hby at_133) _ ?_
    show Steps p.tables e below (T0.setTop (mkF m 134 #[.val (.int p1), .val (.int p2), .val (.ref bp), .val (.ref f), .unset, .unset, .unset, .unset, .unset, .unset] [(.int (Int32.ofNat g2)), (.int (2 : Int32)), (.ref f)])) _
    refine st3.trans ?_
    exact kt
set_option maxRecDepth 65536 in
set_option maxHeartbeats 40000000 in
theorem own_en3 {p : Program} {l : Launch} {e : Env} {s : State} {m : MethodId} {args : Array Value} {below : List Frame} {meth : Method} {c : Code} {T0 : State} {locs : List Loc} {Z : State} {a0 : Array Value} {h0 : Heap} {n0 : Nat} (p1 p2 : Int32) (bp f b : Addr) (kP kA : ClassId) (g0 g1 g2 g3 : Nat) (y0 y1 y2 y4 y5 y6 y7 : Int32)
    (X0 : Stand p l e room_1 s m args below meth c T0 locs 3 14) (hx : p.tables.exec = Jvm.exec) (hZ : Z.Warmed39 s.vm) (hw : ∀ d ∈ tables_1, d.before a0 Z = true) (hby : c.code = code) (hml : c.maxLocals = 10) (hown : s.vm.findClass "com/example/etape/etape/chart/EnclosureForestOutermostPinLaw" = some m.cls) (e0 : T0.heap = h0) (Z0 : n0 ≤ h0.size) (N0 : Fr n0 locs) (E_f : Exa Z h0 f "com/example/etape/etape/chart/EnclosureForest") (F_l : Fld Z h0 f "com/example/etape/etape/chart/EnclosureForest" "link" "[I" (.ref b)) (V_p : Arv Z h0 bp kP .int (4 : Int32) [(.int (Int32.ofNat g0)), (.int (Int32.ofNat g1)), (.int (Int32.ofNat g2)), (.int (Int32.ofNat g3))] (.int (0 : Int32))) (V_b : Arv Z h0 b kA .int (8 : Int32) [(.int y0), (.int y1), (.int y2), (.int (3 : Int32)), (.int y4), (.int y5), (.int y6), (.int y7)] (.int (0 : Int32))) (hfb : f ≠ b) (hpb : bp ≠ b) (g_b : n0 ≤ b) :
    ∃ (T' : State) (L' : List Loc) (h' : Heap), Stand p l e room_1 s m args below meth c T' L' 3 14 ∧ Fr n0 L' ∧ T'.heap = h' ∧ n0 ≤ h'.size ∧ Keep h0 h' [b] ∧ Exa Z h' f "com/example/etape/etape/chart/EnclosureForest" ∧ Fld Z h' f "com/example/etape/etape/chart/EnclosureForest" "link" "[I" (.ref b) ∧ Arv Z h' bp kP .int (4 : Int32) [(.int (Int32.ofNat g0)), (.int (Int32.ofNat g1)), (.int (Int32.ofNat g2)), (.int (Int32.ofNat g3))] (.int (0 : Int32)) ∧ Arv Z h' b kA .int (8 : Int32) [(.int y0), (.int y1), (.int y2), (.int (Int32.ofNat g3)), (.int y4), (.int y5), (.int y6), (.int y7)] (.int (0 : Int32)) ∧ ∀ target, Steps p.tables e below (T'.setTop (mkF m 152 #[.val (.int p1), .val (.int p2), .val (.ref bp), .val (.ref f), .unset, .unset, .unset, .unset, .unset, .unset] [])) target → Steps p.tables e below (T0.setTop (mkF m 137 #[.val (.int p1), .val (.int p2), .val (.ref bp), .val (.ref f), .unset, .unset, .unset, .unset, .unset, .unset] [])) target := by
  by_cases hc : (Int32.ofNat g3) = (3 : Int32)
  · have V_p' := V_p
    have V_b' := V_b
    obtain ⟨cl1, Ar1, -, S1, M1, Hs1, -⟩ := (id (id V_p))
    have hin1 : ¬ ((3 : Int32) < 0 ∨ cl1.slots.size ≤ ((3 : Int32)).toNatClampNeg) := inb_of S1 ⟨by decide, by decide⟩
    have hat1 : cl1.slots[((3 : Int32)).toNatClampNeg]? = some (.int (Int32.ofNat g3)) := Has.at Hs1 hin1 rfl
    refine ⟨T0, _, h0, X0, N0, e0, Z0, Keep.refl _ _, E_f, F_l, V_p', by rw [hc]; exact V_b', fun target kt => ?_⟩
    show Steps p.tables e below (T0.setTop (mkF m 137 #[.val (.int p1), .val (.int p2), .val (.ref bp), .val (.ref f), .unset, .unset, .unset, .unset, .unset, .unset] [])) _
    refine XS.aloadN X0.here hx rfl (hb hby at_137) rfl rfl ?_
    show Steps p.tables e below (T0.setTop (mkF m 138 #[.val (.int p1), .val (.int p2), .val (.ref bp), .val (.ref f), .unset, .unset, .unset, .unset, .unset, .unset] [(.ref bp)])) _
    refine XS.iconst X0.here hx rfl (hb hby at_138) ?_
    show Steps p.tables e below (T0.setTop (mkF m 139 #[.val (.int p1), .val (.int p2), .val (.ref bp), .val (.ref f), .unset, .unset, .unset, .unset, .unset, .unset] [(.int (3 : Int32)), (.ref bp)])) _
    refine X0.iaload hx (j := (3 : Int32)) (v := (.int (Int32.ofNat g3))) (by rw [e0]; exact Ar1.1) (State.isArrayOf_alike hZ.alike Ar1.2.1) Ar1.2.2 hin1 hat1 (g := (mkF m 139 #[.val (.int p1), .val (.int p2), .val (.ref bp), .val (.ref f), .unset, .unset, .unset, .unset, .unset, .unset] [(.int (3 : Int32)), (.ref bp)])) rfl rfl (hb hby at_139) _ ?_
    show Steps p.tables e below (T0.setTop (mkF m 140 #[.val (.int p1), .val (.int p2), .val (.ref bp), .val (.ref f), .unset, .unset, .unset, .unset, .unset, .unset] [(.int (Int32.ofNat g3))])) _
    refine XS.iconst X0.here hx rfl (hb hby at_140) ?_
    show Steps p.tables e below (T0.setTop (mkF m 141 #[.val (.int p1), .val (.int p2), .val (.ref bp), .val (.ref f), .unset, .unset, .unset, .unset, .unset, .unset] [(.int (3 : Int32)), (.int (Int32.ofNat g3))])) _
    refine XS.icmpYes X0.here hx rfl (pc0 := 141) (pc' := 152) rfl (hb hby at_141) rfl (teq (hc : (Int32.ofNat g3) = (3 : Int32))).1 (by decide) (by decide) ?_
    exact kt
  · have V_p' := V_p
    have V_b' := V_b
    obtain ⟨cl1, Ar1, -, S1, M1, Hs1, -⟩ := (id (id V_p))
    have hin1 : ¬ ((3 : Int32) < 0 ∨ cl1.slots.size ≤ ((3 : Int32)).toNatClampNeg) := inb_of S1 ⟨by decide, by decide⟩
    have hat1 : cl1.slots[((3 : Int32)).toNatClampNeg]? = some (.int (Int32.ofNat g3)) := Has.at Hs1 hin1 rfl
    obtain ⟨cl2, Ar2, -, S2, M2, Hs2, -⟩ := (id (id V_p'))
    have hin2 : ¬ ((3 : Int32) < 0 ∨ cl2.slots.size ≤ ((3 : Int32)).toNatClampNeg) := inb_of S2 ⟨by decide, by decide⟩
    have hat2 : cl2.slots[((3 : Int32)).toNatClampNeg]? = some (.int (Int32.ofNat g3)) := Has.at Hs2 hin2 rfl
    obtain ⟨cq3, kq3, q3a, q3b, q3c⟩ := isOf hZ e0 E_f
    obtain ⟨_, _, ⟨T3, L3, k3, n3⟩, -, X3, ⟨Lc3, hQ3, l3, y3, z3⟩, st3⟩ := X0.virtualBack hx (y := (⟨"com/example/etape/etape/chart/EnclosureForest", "enclose", "(II)V"⟩ : MethodName)) (z := (⟨"com/example/etape/etape/chart/EnclosureForest", "enclose", "(II)V"⟩ : MethodName)) hown (mvT hZ (hw _ (List.mem_of_getElem? (i := 26) rfl))) (mvT hZ (hw _ (List.mem_of_getElem? (i := 27) rfl))) (notFace_of_selects (args := #[]) (mvT hZ (hw _ (List.mem_of_getElem? (i := 29) rfl)))) (mvT hZ (hw _ (List.mem_of_getElem? (i := 29) rfl))) (mvT hZ (hw _ (List.mem_of_getElem? (i := 28) rfl))) (by decide) (backOf (W := 0) (rm6_3 l Z a0 hw [] f (Int32.ofNat g3) b kA y0 y1 y2 (3 : Int32) y4 y5 y6 y7 h0 n0 Z0 E_f g_b hfb F_l V_b') hZ (hw _ (List.mem_of_getElem? (i := 30) rfl)) (hw _ (List.mem_of_getElem? (i := 10) rfl)) (by decide) (by decide)) q3a q3c (g := (mkF m 149 #[.val (.int p1), .val (.int p2), .val (.ref bp), .val (.ref f), .unset, .unset, .unset, .unset, .unset, .unset] [(.int (Int32.ofNat g3)), (.int (3 : Int32)), (.ref f)])) rfl (by rw [hml]; rfl) (Steps.refl _) (argsL := [(.int (3 : Int32)), (.int (Int32.ofNat g3))]) (rest := []) (lenOf pd_1 rfl) rfl (by show 2 * 0 + _ ≤ _; exact Nat.le_of_eq rfl) (hb hby at_149) (fun _ _ => ⟨rfl, e0, (by decide : 3 + 0 ≤ _), (by decide : 14 + 0 ≤ _)⟩)
    dsimp only [Pt.U, Pt.locs, Pt.cells, Pt.slots] at X3 l3 y3 z3 st3 hQ3
    subst l3 y3 z3
    obtain ⟨rfl, N3q, K3, Ec3, Fc3, Vc3⟩ := hQ3
    have N3 := Fr.app N0 N3q
    have Z4 : n0 ≤ T3.heap.size := Nat.le_trans Z0 K3.1
    have f5 := V_p'.keep K3 (ninS hpb nin0)
    refine ⟨T3, _, T3.heap, X3, N3, rfl, Z4, K3, Ec3, Fc3, f5, Vc3, fun target kt => ?_⟩
    show Steps p.tables e below (T0.setTop (mkF m 137 #[.val (.int p1), .val (.int p2), .val (.ref bp), .val (.ref f), .unset, .unset, .unset, .unset, .unset, .unset] [])) _
    refine XS.aloadN X0.here hx rfl (hb hby at_137) rfl rfl ?_
    show Steps p.tables e below (T0.setTop (mkF m 138 #[.val (.int p1), .val (.int p2), .val (.ref bp), .val (.ref f), .unset, .unset, .unset, .unset, .unset, .unset] [(.ref bp)])) _
    refine XS.iconst X0.here hx rfl (hb hby at_138) ?_
    show Steps p.tables e below (T0.setTop (mkF m 139 #[.val (.int p1), .val (.int p2), .val (.ref bp), .val (.ref f), .unset, .unset, .unset, .unset, .unset, .unset] [(.int (3 : Int32)), (.ref bp)])) _
    refine X0.iaload hx (j := (3 : Int32)) (v := (.int (Int32.ofNat g3))) (by rw [e0]; exact Ar1.1) (State.isArrayOf_alike hZ.alike Ar1.2.1) Ar1.2.2 hin1 hat1 (g := (mkF m 139 #[.val (.int p1), .val (.int p2), .val (.ref bp), .val (.ref f), .unset, .unset, .unset, .unset, .unset, .unset] [(.int (3 : Int32)), (.ref bp)])) rfl rfl (hb hby at_139) _ ?_
    show Steps p.tables e below (T0.setTop (mkF m 140 #[.val (.int p1), .val (.int p2), .val (.ref bp), .val (.ref f), .unset, .unset, .unset, .unset, .unset, .unset] [(.int (Int32.ofNat g3))])) _
    refine XS.iconst X0.here hx rfl (hb hby at_140) ?_
    show Steps p.tables e below (T0.setTop (mkF m 141 #[.val (.int p1), .val (.int p2), .val (.ref bp), .val (.ref f), .unset, .unset, .unset, .unset, .unset, .unset] [(.int (3 : Int32)), (.int (Int32.ofNat g3))])) _
    refine XS.icmpNo X0.here hx rfl (hb hby at_141) rfl (feq (hc : ¬ ((Int32.ofNat g3) = (3 : Int32)))).1 ?_
    show Steps p.tables e below (T0.setTop (mkF m 144 #[.val (.int p1), .val (.int p2), .val (.ref bp), .val (.ref f), .unset, .unset, .unset, .unset, .unset, .unset] [])) _
    refine XS.aloadN X0.here hx rfl (hb hby at_144) rfl rfl ?_
    show Steps p.tables e below (T0.setTop (mkF m 145 #[.val (.int p1), .val (.int p2), .val (.ref bp), .val (.ref f), .unset, .unset, .unset, .unset, .unset, .unset] [(.ref f)])) _
    refine XS.iconst X0.here hx rfl (hb hby at_145) ?_
    show Steps p.tables e below (T0.setTop (mkF m 146 #[.val (.int p1), .val (.int p2), .val (.ref bp), .val (.ref f), .unset, .unset, .unset, .unset, .unset, .unset] [(.int (3 : Int32)), (.ref f)])) _
    refine XS.aloadN X0.here hx rfl (hb hby at_146) rfl rfl ?_
    show Steps p.tables e below (T0.setTop (mkF m 147 #[.val (.int p1), .val (.int p2), .val (.ref bp), .val (.ref f), .unset, .unset, .unset, .unset, .unset, .unset] [(.ref bp), (.int (3 : Int32)), (.ref f)])) _
    refine XS.iconst X0.here hx rfl (hb hby at_147) ?_
    show Steps p.tables e below (T0.setTop (mkF m 148 #[.val (.int p1), .val (.int p2), .val (.ref bp), .val (.ref f), .unset, .unset, .unset, .unset, .unset, .unset] [(.int (3 : Int32)), (.ref bp), (.int (3 : Int32)), (.ref f)])) _
    refine X0.iaload hx (j := (3 : Int32)) (v := (.int (Int32.ofNat g3))) (by rw [e0]; exact Ar2.1) (State.isArrayOf_alike hZ.alike Ar2.2.1) Ar2.2.2 hin2 hat2 (g := (mkF m 148 #[.val (.int p1), .val (.int p2), .val (.ref bp), .val (.ref f), .unset, .unset, .unset, .unset, .unset, .unset] [(.int (3 : Int32)), (.ref bp), (.int (3 : Int32)), (.ref f)])) rfl rfl (hb hby at_148) _ ?_
    show Steps p.tables e below (T0.setTop (mkF m 149 #[.val (.int p1), .val (.int p2), .val (.ref bp), .val (.ref f), .unset, .unset, .unset, .unset, .unset, .unset] [(.int (Int32.ofNat g3)), (.int (3 : Int32)), (.ref f)])) _
    refine st3.trans ?_
    exact kt
def own_sh (k p : Int32) : Int32 := (p.toUInt32 >>> (k &&& 31).toUInt32).toInt32
theorem pd_2 : parseMethodDescriptor "([II)Z" = some ⟨[(.array .int), .int], some .boolean⟩ := by decide +kernel
theorem pd_3 : parseMethodDescriptor "()V" = some ⟨[], none⟩ := by decide +kernel
theorem pd_4 : parseMethodDescriptor "(I)I" = some ⟨[.int], some .int⟩ := by decide +kernel
theorem ef_rm0 (m : MethodId) (x0 : Int32) (x1 : Int32) : entryFrame m #[(.int x0), (.int x1)] maxLocals = mkF m 0 #[.val (.int x0), .val (.int x1), .unset, .unset, .unset, .unset, .unset, .unset, .unset, .unset] [] := by first | (simp [entryFrame, mkF, argsToLocals, Value.category, maxLocals]; done) | rfl
def Qrm0 (Z : State) (p1 : Int32) (p2 : Int32)  (h0 : Heap) (n0 : Nat) (v : Option Value) (h : Heap) (L : List Loc) : Prop := v = some (.int (1 : Int32)) ∧ Fr n0 L
set_option maxRecDepth 65536 in
set_option maxHeartbeats 40000000 in
theorem rm0 (l : Launch) (Z : State) (a0 : Array Value) (hw : ∀ d ∈ tables_1, d.before a0 Z = true) (ws : List Jvm.Cond) (p1 : Int32) (p2 : Int32)  (h0 : Heap) (n0 : Nat) (Z0 : n0 ≤ h0.size)  :
    MetFree l x (head1 (Jvm.Cond.code x code maxLocals ret :: ws) room_1) (fun a U => a = #[(.int p1), (.int p2)] ∧ Z.Warmed39 U.vm ∧ U.heap = h0) (fun _ _ _ _ _ => True) (fun _ U o U' => ∃ v L, o = .returned v ∧ Qrm0 Z p1 p2  h0 n0 v U'.heap L ∧ FrameEnd U o U' L room_1.cells room_1.slots) := by
  refine MetFree.of_bodySF (plainFor_of_name pn_com_example_etape_etape_chart_EnclosureForestOutermostPinLaw) hisR ?_
  intro p e s m args below meth c s₁ Bd hml0 hP hK
  obtain ⟨rfl, hZ, hh⟩ := hP
  have hx := Bd.exec
  have hby := Bd.bytes
  have hml : c.maxLocals = 10 := hml0
  have hown : s.vm.findClass "com/example/etape/etape/chart/EnclosureForestOutermostPinLaw" = some m.cls := findClass_of_methodNamed Bd.named
  have hnm := (name_of_methodNamed Bd.named Bd.method).1
  have X0 : Stand p l e room_1 s m #[(.int p1), (.int p2)] below meth c s₁ [] 0 0 := Stand.of_body Bd
  have e0 : s₁.heap = h0 := by rw [← hh, Bd.state]; rfl
  have N0 := Fr.nil n0
  have pre0 : ∀ t, Steps p.tables e below (s₁.setTop (mkF m 0 #[.val (.int p1), .val (.int p2), .unset, .unset, .unset, .unset, .unset, .unset, .unset, .unset] [])) t → Steps p.tables e below (s₁.setTop (entryFrame m #[(.int p1), (.int p2)] maxLocals)) t := fun t k => castTop (ef_rm0 m p1 p2) k
  obtain ⟨g0, hg0, eg0⟩ := own_m3 p1
  obtain ⟨g1, hg1, eg1⟩ := own_m3 (own_sh (2 : Int32) p1)
  obtain ⟨g2, hg2, eg2⟩ := own_m3 (own_sh (4 : Int32) p1)
  obtain ⟨g3, hg3, eg3⟩ := own_m3 (own_sh (6 : Int32) p1)
  obtain ⟨x0, hx0, ex0⟩ := own_m3 p2
  obtain ⟨x1, hx1, ex1⟩ := own_m3 (own_sh (2 : Int32) p2)
  obtain ⟨x2, hx2, ex2⟩ := own_m3 (own_sh (4 : Int32) p2)
  have hG := own_sel_lt hg0 hg1 hg2 hg3
  obtain ⟨T1, h1, k1, X1, e1, E1, A1, st1⟩ := newP X0 hx hZ (hw _ (List.mem_of_getElem? (i := 0) rfl)) e0 (g := (mkF m 1 #[.val (.int p1), .val (.int p2), .unset, .unset, .unset, .unset, .unset, .unset, .unset, .unset] [(.int (4 : Int32))])) rfl (hb hby at_1) rfl (by decide) (cap := 4) (by decide) (by decide) (by decide) (by decide)
  obtain ⟨b1, gz1⟩ : ∃ z, z = h0.size := ⟨_, rfl⟩
  rw [← gz1] at A1 st1
  have g_b1 : n0 ≤ b1 := Nat.le_trans Z0 (Nat.le_of_eq gz1.symm)
  have sz_b1 : h0.size ≤ b1 := Nat.le_trans (Keep.refl h0 []).1 (Nat.le_of_eq gz1.symm)
  have Z2 : n0 ≤ h1.size := Nat.le_trans Z0 E1.1
  have V_b1 : Arv Z h1 b1 k1 .int (4 : Int32) [(.int (0 : Int32)), (.int (0 : Int32)), (.int (0 : Int32)), (.int (0 : Int32))] (.int (0 : Int32)) := (Arv.new A1 (by decide)).pad (pad_rep [] (.int (0 : Int32)) 4)
  obtain ⟨cl3, Ar3, q3, S3, M3, Hs3, G3⟩ := V_b1
  have hin3 : ¬ ((0 : Int32) < 0 ∨ cl3.slots.size ≤ ((0 : Int32)).toNatClampNeg) := inb_of S3 ⟨by decide, by decide⟩
  obtain ⟨T4, h4, X4, e4, W4, st4⟩ := stI X1 hx hZ e1 Ar3 (j := (0 : Int32)) hin3 (g := (mkF m 9 #[.val (.int p1), .val (.int p2), .val (.ref b1), .unset, .unset, .unset, .unset, .unset, .unset, .unset] [(.int (Int32.ofNat g0)), (.int (0 : Int32)), (.ref b1)])) rfl rfl (hb hby at_9)
  have Z5 : n0 ≤ h4.size := Nat.le_trans Z2 (Keep.of_wr W4).1
  have V4 := Arv.set Ar3 q3 S3 M3 Hs3 G3 rfl W4 0 rfl (Nat.le_of_ble_eq_true rfl)
  have N4 := Fr.snoc X4 N0 g_b1
  obtain ⟨cl6, Ar6, q6, S6, M6, Hs6, G6⟩ := V4
  have hin6 : ¬ ((1 : Int32) < 0 ∨ cl6.slots.size ≤ ((1 : Int32)).toNatClampNeg) := inb_of S6 ⟨by decide, by decide⟩
  obtain ⟨T7, h7, X7, e7, W7, st7⟩ := stI X4 hx hZ e4 Ar6 (j := (1 : Int32)) hin6 (g := (mkF m 17 #[.val (.int p1), .val (.int p2), .val (.ref b1), .unset, .unset, .unset, .unset, .unset, .unset, .unset] [(.int (Int32.ofNat g1)), (.int (1 : Int32)), (.ref b1)])) rfl rfl (hb hby at_17)
  have Z8 : n0 ≤ h7.size := Nat.le_trans Z5 (Keep.of_wr W7).1
  have V7 := Arv.set Ar6 q6 S6 M6 Hs6 G6 rfl W7 1 rfl (Nat.le_of_ble_eq_true rfl)
  have N7 := Fr.snoc X7 N4 g_b1
  obtain ⟨cl9, Ar9, q9, S9, M9, Hs9, G9⟩ := V7
  have hin9 : ¬ ((2 : Int32) < 0 ∨ cl9.slots.size ≤ ((2 : Int32)).toNatClampNeg) := inb_of S9 ⟨by decide, by decide⟩
  obtain ⟨T10, h10, X10, e10, W10, st10⟩ := stI X7 hx hZ e7 Ar9 (j := (2 : Int32)) hin9 (g := (mkF m 25 #[.val (.int p1), .val (.int p2), .val (.ref b1), .unset, .unset, .unset, .unset, .unset, .unset, .unset] [(.int (Int32.ofNat g2)), (.int (2 : Int32)), (.ref b1)])) rfl rfl (hb hby at_25)
  have Z11 : n0 ≤ h10.size := Nat.le_trans Z8 (Keep.of_wr W10).1
  have V10 := Arv.set Ar9 q9 S9 M9 Hs9 G9 rfl W10 2 rfl (Nat.le_of_ble_eq_true rfl)
  have N10 := Fr.snoc X10 N7 g_b1
  obtain ⟨cl12, Ar12, q12, S12, M12, Hs12, G12⟩ := V10
  have hin12 : ¬ ((3 : Int32) < 0 ∨ cl12.slots.size ≤ ((3 : Int32)).toNatClampNeg) := inb_of S12 ⟨by decide, by decide⟩
  obtain ⟨T13, h13, X13, e13, W13, st13⟩ := stI X10 hx hZ e10 Ar12 (j := (3 : Int32)) hin12 (g := (mkF m 34 #[.val (.int p1), .val (.int p2), .val (.ref b1), .unset, .unset, .unset, .unset, .unset, .unset, .unset] [(.int (Int32.ofNat g3)), (.int (3 : Int32)), (.ref b1)])) rfl rfl (hb hby at_34)
  have Z14 : n0 ≤ h13.size := Nat.le_trans Z11 (Keep.of_wr W13).1
  have V13 := Arv.set Ar12 q12 S12 M12 Hs12 G12 rfl W13 3 rfl (Nat.le_of_ble_eq_true rfl)
  have N13 := Fr.snoc X13 N10 g_b1
  obtain ⟨_, _, ⟨T15, L15, k15, n15⟩, -, X15, ⟨Lc15, hQ15, l15, y15, z15⟩, st15⟩ := Jvm.LawKit.callS X13 hx (y := (⟨"com/example/etape/etape/chart/EnclosureForestOutermostPinLaw", "isRootOf", "([II)Z"⟩ : MethodName)) hown (mvT hZ (hw _ (List.mem_of_getElem? (i := 1) rfl))) (mvT hZ (hw _ (List.mem_of_getElem? (i := 2) rfl))) (mvT hZ (hw _ (List.mem_of_getElem? (i := 3) rfl))) (mvT hZ (hw _ (List.mem_of_getElem? (i := 4) rfl))) (by decide) (backOf (W := 0) (rm1 l Z a0 hw [] b1 0 g0 g1 g2 g3 k1 h13 n0 Z14 (by omega) hG V13) hZ (hw _ (List.mem_of_getElem? (i := 4) rfl)) (hw _ (List.mem_of_getElem? (i := 3) rfl)) (by decide) (by decide)) (g := (mkF m 37 #[.val (.int p1), .val (.int p2), .val (.ref b1), .unset, .unset, .unset, .unset, .unset, .unset, .unset] [(.int (0 : Int32)), (.ref b1)])) rfl (by rw [hml]; rfl) (argsL := [(.ref b1), (.int (0 : Int32))]) (rest := []) (lenOf pd_2 rfl) rfl (by show 2 * 0 + _ ≤ _; exact Nat.le_of_eq rfl) (hb hby at_37) (fun _ _ => ⟨rfl, e13, (by decide : 1 + 0 ≤ _), (by decide : 4 + 0 ≤ _)⟩)
  dsimp only [Pt.U, Pt.locs, Pt.cells, Pt.slots] at X15 l15 y15 z15 st15 hQ15
  subst l15 y15 z15
  obtain ⟨rfl, N15q, e15⟩ := hQ15
  have N15 := Fr.app N13 N15q
  by_cases ht0 : (own_isr g0 g1 g2 g3 0) = (0 : Int32)
  · obtain ⟨fs, hr, hrun, hended, hW, hsame⟩ := X15.leave (v := some (.int (1 : Int32))) (fun h => by rw [Bd.returns] at h; cases h)
    refine ⟨_, _, pre0 _ ?_, hrun, hended, _, _, rfl, ?_, ⟨_, rfl⟩, hW, hsame.mono (by decide) (by decide)⟩
    · show Steps p.tables e below (s₁.setTop (mkF m 0 #[.val (.int p1), .val (.int p2), .unset, .unset, .unset, .unset, .unset, .unset, .unset, .unset] [])) _
      refine XS.iconst X0.here hx rfl (hb hby at_0) ?_
      show Steps p.tables e below (s₁.setTop (mkF m 1 #[.val (.int p1), .val (.int p2), .unset, .unset, .unset, .unset, .unset, .unset, .unset, .unset] [(.int (4 : Int32))])) _
      refine st1 _ ?_
      show Steps p.tables e below (T1.setTop (mkF m 3 #[.val (.int p1), .val (.int p2), .unset, .unset, .unset, .unset, .unset, .unset, .unset, .unset] [(.ref b1)])) _
      refine XS.astoreN X1.here hx rfl (hb hby at_3) rfl rfl (l' := #[.val (.int p1), .val (.int p2), .val (.ref b1), .unset, .unset, .unset, .unset, .unset, .unset, .unset]) rfl ?_
      show Steps p.tables e below (T1.setTop (mkF m 4 #[.val (.int p1), .val (.int p2), .val (.ref b1), .unset, .unset, .unset, .unset, .unset, .unset, .unset] [])) _
      refine XS.aloadN X1.here hx rfl (hb hby at_4) rfl rfl ?_
      show Steps p.tables e below (T1.setTop (mkF m 5 #[.val (.int p1), .val (.int p2), .val (.ref b1), .unset, .unset, .unset, .unset, .unset, .unset, .unset] [(.ref b1)])) _
      refine XS.iconst X1.here hx rfl (hb hby at_5) ?_
      show Steps p.tables e below (T1.setTop (mkF m 6 #[.val (.int p1), .val (.int p2), .val (.ref b1), .unset, .unset, .unset, .unset, .unset, .unset, .unset] [(.int (0 : Int32)), (.ref b1)])) _
      refine XS.iloadN X1.here hx rfl (hb hby at_6) rfl ?_
      show Steps p.tables e below (T1.setTop (mkF m 7 #[.val (.int p1), .val (.int p2), .val (.ref b1), .unset, .unset, .unset, .unset, .unset, .unset, .unset] [(.int p1), (.int (0 : Int32)), (.ref b1)])) _
      refine XS.iconst X1.here hx rfl (hb hby at_7) ?_
      show Steps p.tables e below (T1.setTop (mkF m 8 #[.val (.int p1), .val (.int p2), .val (.ref b1), .unset, .unset, .unset, .unset, .unset, .unset, .unset] [(.int (3 : Int32)), (.int p1), (.int (0 : Int32)), (.ref b1)])) _
      refine XS.iand X1.here hx rfl (hb hby at_8) rfl ?_
      show Steps p.tables e below (T1.setTop (mkF m 9 #[.val (.int p1), .val (.int p2), .val (.ref b1), .unset, .unset, .unset, .unset, .unset, .unset, .unset] [(.int (p1 &&& (3 : Int32))), (.int (0 : Int32)), (.ref b1)])) _
      rw [eg0]
      show Steps p.tables e below (T1.setTop (mkF m 9 #[.val (.int p1), .val (.int p2), .val (.ref b1), .unset, .unset, .unset, .unset, .unset, .unset, .unset] [(.int (Int32.ofNat g0)), (.int (0 : Int32)), (.ref b1)])) _
      refine st4 _ ?_
      show Steps p.tables e below (T4.setTop (mkF m 10 #[.val (.int p1), .val (.int p2), .val (.ref b1), .unset, .unset, .unset, .unset, .unset, .unset, .unset] [])) _
      refine XS.aloadN X4.here hx rfl (hb hby at_10) rfl rfl ?_
      show Steps p.tables e below (T4.setTop (mkF m 11 #[.val (.int p1), .val (.int p2), .val (.ref b1), .unset, .unset, .unset, .unset, .unset, .unset, .unset] [(.ref b1)])) _
      refine XS.iconst X4.here hx rfl (hb hby at_11) ?_
      show Steps p.tables e below (T4.setTop (mkF m 12 #[.val (.int p1), .val (.int p2), .val (.ref b1), .unset, .unset, .unset, .unset, .unset, .unset, .unset] [(.int (1 : Int32)), (.ref b1)])) _
      refine XS.iloadN X4.here hx rfl (hb hby at_12) rfl ?_
      show Steps p.tables e below (T4.setTop (mkF m 13 #[.val (.int p1), .val (.int p2), .val (.ref b1), .unset, .unset, .unset, .unset, .unset, .unset, .unset] [(.int p1), (.int (1 : Int32)), (.ref b1)])) _
      refine XS.iconst X4.here hx rfl (hb hby at_13) ?_
      show Steps p.tables e below (T4.setTop (mkF m 14 #[.val (.int p1), .val (.int p2), .val (.ref b1), .unset, .unset, .unset, .unset, .unset, .unset, .unset] [(.int (2 : Int32)), (.int p1), (.int (1 : Int32)), (.ref b1)])) _
      refine XS.iushr X4.here hx rfl (hb hby at_14) rfl ?_
      show Steps p.tables e below (T4.setTop (mkF m 15 #[.val (.int p1), .val (.int p2), .val (.ref b1), .unset, .unset, .unset, .unset, .unset, .unset, .unset] [(.int (own_sh (2 : Int32) p1)), (.int (1 : Int32)), (.ref b1)])) _
      refine XS.iconst X4.here hx rfl (hb hby at_15) ?_
      show Steps p.tables e below (T4.setTop (mkF m 16 #[.val (.int p1), .val (.int p2), .val (.ref b1), .unset, .unset, .unset, .unset, .unset, .unset, .unset] [(.int (3 : Int32)), (.int (own_sh (2 : Int32) p1)), (.int (1 : Int32)), (.ref b1)])) _
      refine XS.iand X4.here hx rfl (hb hby at_16) rfl ?_
      show Steps p.tables e below (T4.setTop (mkF m 17 #[.val (.int p1), .val (.int p2), .val (.ref b1), .unset, .unset, .unset, .unset, .unset, .unset, .unset] [(.int ((own_sh (2 : Int32) p1) &&& (3 : Int32))), (.int (1 : Int32)), (.ref b1)])) _
      rw [eg1]
      show Steps p.tables e below (T4.setTop (mkF m 17 #[.val (.int p1), .val (.int p2), .val (.ref b1), .unset, .unset, .unset, .unset, .unset, .unset, .unset] [(.int (Int32.ofNat g1)), (.int (1 : Int32)), (.ref b1)])) _
      refine st7 _ ?_
      show Steps p.tables e below (T7.setTop (mkF m 18 #[.val (.int p1), .val (.int p2), .val (.ref b1), .unset, .unset, .unset, .unset, .unset, .unset, .unset] [])) _
      refine XS.aloadN X7.here hx rfl (hb hby at_18) rfl rfl ?_
      show Steps p.tables e below (T7.setTop (mkF m 19 #[.val (.int p1), .val (.int p2), .val (.ref b1), .unset, .unset, .unset, .unset, .unset, .unset, .unset] [(.ref b1)])) _
      refine XS.iconst X7.here hx rfl (hb hby at_19) ?_
      show Steps p.tables e below (T7.setTop (mkF m 20 #[.val (.int p1), .val (.int p2), .val (.ref b1), .unset, .unset, .unset, .unset, .unset, .unset, .unset] [(.int (2 : Int32)), (.ref b1)])) _
      refine XS.iloadN X7.here hx rfl (hb hby at_20) rfl ?_
      show Steps p.tables e below (T7.setTop (mkF m 21 #[.val (.int p1), .val (.int p2), .val (.ref b1), .unset, .unset, .unset, .unset, .unset, .unset, .unset] [(.int p1), (.int (2 : Int32)), (.ref b1)])) _
      refine XS.iconst X7.here hx rfl (hb hby at_21) ?_
      show Steps p.tables e below (T7.setTop (mkF m 22 #[.val (.int p1), .val (.int p2), .val (.ref b1), .unset, .unset, .unset, .unset, .unset, .unset, .unset] [(.int (4 : Int32)), (.int p1), (.int (2 : Int32)), (.ref b1)])) _
      refine XS.iushr X7.here hx rfl (hb hby at_22) rfl ?_
      show Steps p.tables e below (T7.setTop (mkF m 23 #[.val (.int p1), .val (.int p2), .val (.ref b1), .unset, .unset, .unset, .unset, .unset, .unset, .unset] [(.int (own_sh (4 : Int32) p1)), (.int (2 : Int32)), (.ref b1)])) _
      refine XS.iconst X7.here hx rfl (hb hby at_23) ?_
      show Steps p.tables e below (T7.setTop (mkF m 24 #[.val (.int p1), .val (.int p2), .val (.ref b1), .unset, .unset, .unset, .unset, .unset, .unset, .unset] [(.int (3 : Int32)), (.int (own_sh (4 : Int32) p1)), (.int (2 : Int32)), (.ref b1)])) _
      refine XS.iand X7.here hx rfl (hb hby at_24) rfl ?_
      show Steps p.tables e below (T7.setTop (mkF m 25 #[.val (.int p1), .val (.int p2), .val (.ref b1), .unset, .unset, .unset, .unset, .unset, .unset, .unset] [(.int ((own_sh (4 : Int32) p1) &&& (3 : Int32))), (.int (2 : Int32)), (.ref b1)])) _
      rw [eg2]
      show Steps p.tables e below (T7.setTop (mkF m 25 #[.val (.int p1), .val (.int p2), .val (.ref b1), .unset, .unset, .unset, .unset, .unset, .unset, .unset] [(.int (Int32.ofNat g2)), (.int (2 : Int32)), (.ref b1)])) _
      refine st10 _ ?_
      show Steps p.tables e below (T10.setTop (mkF m 26 #[.val (.int p1), .val (.int p2), .val (.ref b1), .unset, .unset, .unset, .unset, .unset, .unset, .unset] [])) _
      refine XS.aloadN X10.here hx rfl (hb hby at_26) rfl rfl ?_
      show Steps p.tables e below (T10.setTop (mkF m 27 #[.val (.int p1), .val (.int p2), .val (.ref b1), .unset, .unset, .unset, .unset, .unset, .unset, .unset] [(.ref b1)])) _
      refine XS.iconst X10.here hx rfl (hb hby at_27) ?_
      show Steps p.tables e below (T10.setTop (mkF m 28 #[.val (.int p1), .val (.int p2), .val (.ref b1), .unset, .unset, .unset, .unset, .unset, .unset, .unset] [(.int (3 : Int32)), (.ref b1)])) _
      refine XS.iloadN X10.here hx rfl (hb hby at_28) rfl ?_
      show Steps p.tables e below (T10.setTop (mkF m 29 #[.val (.int p1), .val (.int p2), .val (.ref b1), .unset, .unset, .unset, .unset, .unset, .unset, .unset] [(.int p1), (.int (3 : Int32)), (.ref b1)])) _
      refine XS.bipush X10.here hx rfl (hb hby at_29) ?_
      show Steps p.tables e below (T10.setTop (mkF m 31 #[.val (.int p1), .val (.int p2), .val (.ref b1), .unset, .unset, .unset, .unset, .unset, .unset, .unset] [(.int (6 : Int32)), (.int p1), (.int (3 : Int32)), (.ref b1)])) _
      refine XS.iushr X10.here hx rfl (hb hby at_31) rfl ?_
      show Steps p.tables e below (T10.setTop (mkF m 32 #[.val (.int p1), .val (.int p2), .val (.ref b1), .unset, .unset, .unset, .unset, .unset, .unset, .unset] [(.int (own_sh (6 : Int32) p1)), (.int (3 : Int32)), (.ref b1)])) _
      refine XS.iconst X10.here hx rfl (hb hby at_32) ?_
      show Steps p.tables e below (T10.setTop (mkF m 33 #[.val (.int p1), .val (.int p2), .val (.ref b1), .unset, .unset, .unset, .unset, .unset, .unset, .unset] [(.int (3 : Int32)), (.int (own_sh (6 : Int32) p1)), (.int (3 : Int32)), (.ref b1)])) _
      refine XS.iand X10.here hx rfl (hb hby at_33) rfl ?_
      show Steps p.tables e below (T10.setTop (mkF m 34 #[.val (.int p1), .val (.int p2), .val (.ref b1), .unset, .unset, .unset, .unset, .unset, .unset, .unset] [(.int ((own_sh (6 : Int32) p1) &&& (3 : Int32))), (.int (3 : Int32)), (.ref b1)])) _
      rw [eg3]
      show Steps p.tables e below (T10.setTop (mkF m 34 #[.val (.int p1), .val (.int p2), .val (.ref b1), .unset, .unset, .unset, .unset, .unset, .unset, .unset] [(.int (Int32.ofNat g3)), (.int (3 : Int32)), (.ref b1)])) _
      refine st13 _ ?_
      show Steps p.tables e below (T13.setTop (mkF m 35 #[.val (.int p1), .val (.int p2), .val (.ref b1), .unset, .unset, .unset, .unset, .unset, .unset, .unset] [])) _
      refine XS.aloadN X13.here hx rfl (hb hby at_35) rfl rfl ?_
      show Steps p.tables e below (T13.setTop (mkF m 36 #[.val (.int p1), .val (.int p2), .val (.ref b1), .unset, .unset, .unset, .unset, .unset, .unset, .unset] [(.ref b1)])) _
      refine XS.iconst X13.here hx rfl (hb hby at_36) ?_
      show Steps p.tables e below (T13.setTop (mkF m 37 #[.val (.int p1), .val (.int p2), .val (.ref b1), .unset, .unset, .unset, .unset, .unset, .unset, .unset] [(.int (0 : Int32)), (.ref b1)])) _
      refine st15 _ ?_
      show Steps p.tables e below (T15.setTop (mkF m 40 #[.val (.int p1), .val (.int p2), .val (.ref b1), .unset, .unset, .unset, .unset, .unset, .unset, .unset] [(.int (own_isr g0 g1 g2 g3 0))])) _
      refine XS.ifYes X15.here hx rfl (pc0 := 40) (pc' := 67) rfl (hb hby at_40) rfl ((if0 _ _).trans (teq (ht0 : (own_isr g0 g1 g2 g3 0) = (0 : Int32))).1) (by decide) (by decide) ?_
      show Steps p.tables e below (T15.setTop (mkF m 67 #[.val (.int p1), .val (.int p2), .val (.ref b1), .unset, .unset, .unset, .unset, .unset, .unset, .unset] [])) _
      refine XS.iconst X15.here hx rfl (hb hby at_67) ?_
      show Steps p.tables e below (T15.setTop (mkF m 68 #[.val (.int p1), .val (.int p2), .val (.ref b1), .unset, .unset, .unset, .unset, .unset, .unset, .unset] [(.int (1 : Int32))])) _
      exact retN X15 hx (t := .boolean) Bd.returns (by simp) (hb hby at_68) hr
    · show Qrm0 Z p1 p2  h0 n0 _ T15.heap _
      rw [e15]
      exact ⟨rfl, N15⟩
  · obtain ⟨_, _, ⟨T16, L16, k16, n16⟩, -, X16, ⟨Lc16, hQ16, l16, y16, z16⟩, st16⟩ := Jvm.LawKit.callS X15 hx (y := (⟨"com/example/etape/etape/chart/EnclosureForestOutermostPinLaw", "isRootOf", "([II)Z"⟩ : MethodName)) hown (mvT hZ (hw _ (List.mem_of_getElem? (i := 1) rfl))) (mvT hZ (hw _ (List.mem_of_getElem? (i := 2) rfl))) (mvT hZ (hw _ (List.mem_of_getElem? (i := 3) rfl))) (mvT hZ (hw _ (List.mem_of_getElem? (i := 4) rfl))) (by decide) (backOf (W := 0) (rm1 l Z a0 hw [] b1 1 g0 g1 g2 g3 k1 h13 n0 Z14 (by omega) hG V13) hZ (hw _ (List.mem_of_getElem? (i := 4) rfl)) (hw _ (List.mem_of_getElem? (i := 3) rfl)) (by decide) (by decide)) (g := (mkF m 45 #[.val (.int p1), .val (.int p2), .val (.ref b1), .unset, .unset, .unset, .unset, .unset, .unset, .unset] [(.int (1 : Int32)), (.ref b1)])) rfl (by rw [hml]; rfl) (argsL := [(.ref b1), (.int (1 : Int32))]) (rest := []) (lenOf pd_2 rfl) rfl (by show 2 * 0 + _ ≤ _; exact Nat.le_of_eq rfl) (hb hby at_45) (fun _ _ => ⟨rfl, e15, (by decide : 1 + 0 ≤ _), (by decide : 4 + 0 ≤ _)⟩)
    dsimp only [Pt.U, Pt.locs, Pt.cells, Pt.slots] at X16 l16 y16 z16 st16 hQ16
    subst l16 y16 z16
    obtain ⟨rfl, N16q, e16⟩ := hQ16
    have N16 := Fr.app N15 N16q
    by_cases ht1 : (own_isr g0 g1 g2 g3 1) = (0 : Int32)
    · obtain ⟨fs, hr, hrun, hended, hW, hsame⟩ := X16.leave (v := some (.int (1 : Int32))) (fun h => by rw [Bd.returns] at h; cases h)
      refine ⟨_, _, pre0 _ ?_, hrun, hended, _, _, rfl, ?_, ⟨_, rfl⟩, hW, hsame.mono (by decide) (by decide)⟩
      · show Steps p.tables e below (s₁.setTop (mkF m 0 #[.val (.int p1), .val (.int p2), .unset, .unset, .unset, .unset, .unset, .unset, .unset, .unset] [])) _
        refine XS.iconst X0.here hx rfl (hb hby at_0) ?_
        show Steps p.tables e below (s₁.setTop (mkF m 1 #[.val (.int p1), .val (.int p2), .unset, .unset, .unset, .unset, .unset, .unset, .unset, .unset] [(.int (4 : Int32))])) _
        refine st1 _ ?_
        show Steps p.tables e below (T1.setTop (mkF m 3 #[.val (.int p1), .val (.int p2), .unset, .unset, .unset, .unset, .unset, .unset, .unset, .unset] [(.ref b1)])) _
        refine XS.astoreN X1.here hx rfl (hb hby at_3) rfl rfl (l' := #[.val (.int p1), .val (.int p2), .val (.ref b1), .unset, .unset, .unset, .unset, .unset, .unset, .unset]) rfl ?_
        show Steps p.tables e below (T1.setTop (mkF m 4 #[.val (.int p1), .val (.int p2), .val (.ref b1), .unset, .unset, .unset, .unset, .unset, .unset, .unset] [])) _
        refine XS.aloadN X1.here hx rfl (hb hby at_4) rfl rfl ?_
        show Steps p.tables e below (T1.setTop (mkF m 5 #[.val (.int p1), .val (.int p2), .val (.ref b1), .unset, .unset, .unset, .unset, .unset, .unset, .unset] [(.ref b1)])) _
        refine XS.iconst X1.here hx rfl (hb hby at_5) ?_
        show Steps p.tables e below (T1.setTop (mkF m 6 #[.val (.int p1), .val (.int p2), .val (.ref b1), .unset, .unset, .unset, .unset, .unset, .unset, .unset] [(.int (0 : Int32)), (.ref b1)])) _
        refine XS.iloadN X1.here hx rfl (hb hby at_6) rfl ?_
        show Steps p.tables e below (T1.setTop (mkF m 7 #[.val (.int p1), .val (.int p2), .val (.ref b1), .unset, .unset, .unset, .unset, .unset, .unset, .unset] [(.int p1), (.int (0 : Int32)), (.ref b1)])) _
        refine XS.iconst X1.here hx rfl (hb hby at_7) ?_
        show Steps p.tables e below (T1.setTop (mkF m 8 #[.val (.int p1), .val (.int p2), .val (.ref b1), .unset, .unset, .unset, .unset, .unset, .unset, .unset] [(.int (3 : Int32)), (.int p1), (.int (0 : Int32)), (.ref b1)])) _
        refine XS.iand X1.here hx rfl (hb hby at_8) rfl ?_
        show Steps p.tables e below (T1.setTop (mkF m 9 #[.val (.int p1), .val (.int p2), .val (.ref b1), .unset, .unset, .unset, .unset, .unset, .unset, .unset] [(.int (p1 &&& (3 : Int32))), (.int (0 : Int32)), (.ref b1)])) _
        rw [eg0]
        show Steps p.tables e below (T1.setTop (mkF m 9 #[.val (.int p1), .val (.int p2), .val (.ref b1), .unset, .unset, .unset, .unset, .unset, .unset, .unset] [(.int (Int32.ofNat g0)), (.int (0 : Int32)), (.ref b1)])) _
        refine st4 _ ?_
        show Steps p.tables e below (T4.setTop (mkF m 10 #[.val (.int p1), .val (.int p2), .val (.ref b1), .unset, .unset, .unset, .unset, .unset, .unset, .unset] [])) _
        refine XS.aloadN X4.here hx rfl (hb hby at_10) rfl rfl ?_
        show Steps p.tables e below (T4.setTop (mkF m 11 #[.val (.int p1), .val (.int p2), .val (.ref b1), .unset, .unset, .unset, .unset, .unset, .unset, .unset] [(.ref b1)])) _
        refine XS.iconst X4.here hx rfl (hb hby at_11) ?_
        show Steps p.tables e below (T4.setTop (mkF m 12 #[.val (.int p1), .val (.int p2), .val (.ref b1), .unset, .unset, .unset, .unset, .unset, .unset, .unset] [(.int (1 : Int32)), (.ref b1)])) _
        refine XS.iloadN X4.here hx rfl (hb hby at_12) rfl ?_
        show Steps p.tables e below (T4.setTop (mkF m 13 #[.val (.int p1), .val (.int p2), .val (.ref b1), .unset, .unset, .unset, .unset, .unset, .unset, .unset] [(.int p1), (.int (1 : Int32)), (.ref b1)])) _
        refine XS.iconst X4.here hx rfl (hb hby at_13) ?_
        show Steps p.tables e below (T4.setTop (mkF m 14 #[.val (.int p1), .val (.int p2), .val (.ref b1), .unset, .unset, .unset, .unset, .unset, .unset, .unset] [(.int (2 : Int32)), (.int p1), (.int (1 : Int32)), (.ref b1)])) _
        refine XS.iushr X4.here hx rfl (hb hby at_14) rfl ?_
        show Steps p.tables e below (T4.setTop (mkF m 15 #[.val (.int p1), .val (.int p2), .val (.ref b1), .unset, .unset, .unset, .unset, .unset, .unset, .unset] [(.int (own_sh (2 : Int32) p1)), (.int (1 : Int32)), (.ref b1)])) _
        refine XS.iconst X4.here hx rfl (hb hby at_15) ?_
        show Steps p.tables e below (T4.setTop (mkF m 16 #[.val (.int p1), .val (.int p2), .val (.ref b1), .unset, .unset, .unset, .unset, .unset, .unset, .unset] [(.int (3 : Int32)), (.int (own_sh (2 : Int32) p1)), (.int (1 : Int32)), (.ref b1)])) _
        refine XS.iand X4.here hx rfl (hb hby at_16) rfl ?_
        show Steps p.tables e below (T4.setTop (mkF m 17 #[.val (.int p1), .val (.int p2), .val (.ref b1), .unset, .unset, .unset, .unset, .unset, .unset, .unset] [(.int ((own_sh (2 : Int32) p1) &&& (3 : Int32))), (.int (1 : Int32)), (.ref b1)])) _
        rw [eg1]
        show Steps p.tables e below (T4.setTop (mkF m 17 #[.val (.int p1), .val (.int p2), .val (.ref b1), .unset, .unset, .unset, .unset, .unset, .unset, .unset] [(.int (Int32.ofNat g1)), (.int (1 : Int32)), (.ref b1)])) _
        refine st7 _ ?_
        show Steps p.tables e below (T7.setTop (mkF m 18 #[.val (.int p1), .val (.int p2), .val (.ref b1), .unset, .unset, .unset, .unset, .unset, .unset, .unset] [])) _
        refine XS.aloadN X7.here hx rfl (hb hby at_18) rfl rfl ?_
        show Steps p.tables e below (T7.setTop (mkF m 19 #[.val (.int p1), .val (.int p2), .val (.ref b1), .unset, .unset, .unset, .unset, .unset, .unset, .unset] [(.ref b1)])) _
        refine XS.iconst X7.here hx rfl (hb hby at_19) ?_
        show Steps p.tables e below (T7.setTop (mkF m 20 #[.val (.int p1), .val (.int p2), .val (.ref b1), .unset, .unset, .unset, .unset, .unset, .unset, .unset] [(.int (2 : Int32)), (.ref b1)])) _
        refine XS.iloadN X7.here hx rfl (hb hby at_20) rfl ?_
        show Steps p.tables e below (T7.setTop (mkF m 21 #[.val (.int p1), .val (.int p2), .val (.ref b1), .unset, .unset, .unset, .unset, .unset, .unset, .unset] [(.int p1), (.int (2 : Int32)), (.ref b1)])) _
        refine XS.iconst X7.here hx rfl (hb hby at_21) ?_
        show Steps p.tables e below (T7.setTop (mkF m 22 #[.val (.int p1), .val (.int p2), .val (.ref b1), .unset, .unset, .unset, .unset, .unset, .unset, .unset] [(.int (4 : Int32)), (.int p1), (.int (2 : Int32)), (.ref b1)])) _
        refine XS.iushr X7.here hx rfl (hb hby at_22) rfl ?_
        show Steps p.tables e below (T7.setTop (mkF m 23 #[.val (.int p1), .val (.int p2), .val (.ref b1), .unset, .unset, .unset, .unset, .unset, .unset, .unset] [(.int (own_sh (4 : Int32) p1)), (.int (2 : Int32)), (.ref b1)])) _
        refine XS.iconst X7.here hx rfl (hb hby at_23) ?_
        show Steps p.tables e below (T7.setTop (mkF m 24 #[.val (.int p1), .val (.int p2), .val (.ref b1), .unset, .unset, .unset, .unset, .unset, .unset, .unset] [(.int (3 : Int32)), (.int (own_sh (4 : Int32) p1)), (.int (2 : Int32)), (.ref b1)])) _
        refine XS.iand X7.here hx rfl (hb hby at_24) rfl ?_
        show Steps p.tables e below (T7.setTop (mkF m 25 #[.val (.int p1), .val (.int p2), .val (.ref b1), .unset, .unset, .unset, .unset, .unset, .unset, .unset] [(.int ((own_sh (4 : Int32) p1) &&& (3 : Int32))), (.int (2 : Int32)), (.ref b1)])) _
        rw [eg2]
        show Steps p.tables e below (T7.setTop (mkF m 25 #[.val (.int p1), .val (.int p2), .val (.ref b1), .unset, .unset, .unset, .unset, .unset, .unset, .unset] [(.int (Int32.ofNat g2)), (.int (2 : Int32)), (.ref b1)])) _
        refine st10 _ ?_
        show Steps p.tables e below (T10.setTop (mkF m 26 #[.val (.int p1), .val (.int p2), .val (.ref b1), .unset, .unset, .unset, .unset, .unset, .unset, .unset] [])) _
        refine XS.aloadN X10.here hx rfl (hb hby at_26) rfl rfl ?_
        show Steps p.tables e below (T10.setTop (mkF m 27 #[.val (.int p1), .val (.int p2), .val (.ref b1), .unset, .unset, .unset, .unset, .unset, .unset, .unset] [(.ref b1)])) _
        refine XS.iconst X10.here hx rfl (hb hby at_27) ?_
        show Steps p.tables e below (T10.setTop (mkF m 28 #[.val (.int p1), .val (.int p2), .val (.ref b1), .unset, .unset, .unset, .unset, .unset, .unset, .unset] [(.int (3 : Int32)), (.ref b1)])) _
        refine XS.iloadN X10.here hx rfl (hb hby at_28) rfl ?_
        show Steps p.tables e below (T10.setTop (mkF m 29 #[.val (.int p1), .val (.int p2), .val (.ref b1), .unset, .unset, .unset, .unset, .unset, .unset, .unset] [(.int p1), (.int (3 : Int32)), (.ref b1)])) _
        refine XS.bipush X10.here hx rfl (hb hby at_29) ?_
        show Steps p.tables e below (T10.setTop (mkF m 31 #[.val (.int p1), .val (.int p2), .val (.ref b1), .unset, .unset, .unset, .unset, .unset, .unset, .unset] [(.int (6 : Int32)), (.int p1), (.int (3 : Int32)), (.ref b1)])) _
        refine XS.iushr X10.here hx rfl (hb hby at_31) rfl ?_
        show Steps p.tables e below (T10.setTop (mkF m 32 #[.val (.int p1), .val (.int p2), .val (.ref b1), .unset, .unset, .unset, .unset, .unset, .unset, .unset] [(.int (own_sh (6 : Int32) p1)), (.int (3 : Int32)), (.ref b1)])) _
        refine XS.iconst X10.here hx rfl (hb hby at_32) ?_
        show Steps p.tables e below (T10.setTop (mkF m 33 #[.val (.int p1), .val (.int p2), .val (.ref b1), .unset, .unset, .unset, .unset, .unset, .unset, .unset] [(.int (3 : Int32)), (.int (own_sh (6 : Int32) p1)), (.int (3 : Int32)), (.ref b1)])) _
        refine XS.iand X10.here hx rfl (hb hby at_33) rfl ?_
        show Steps p.tables e below (T10.setTop (mkF m 34 #[.val (.int p1), .val (.int p2), .val (.ref b1), .unset, .unset, .unset, .unset, .unset, .unset, .unset] [(.int ((own_sh (6 : Int32) p1) &&& (3 : Int32))), (.int (3 : Int32)), (.ref b1)])) _
        rw [eg3]
        show Steps p.tables e below (T10.setTop (mkF m 34 #[.val (.int p1), .val (.int p2), .val (.ref b1), .unset, .unset, .unset, .unset, .unset, .unset, .unset] [(.int (Int32.ofNat g3)), (.int (3 : Int32)), (.ref b1)])) _
        refine st13 _ ?_
        show Steps p.tables e below (T13.setTop (mkF m 35 #[.val (.int p1), .val (.int p2), .val (.ref b1), .unset, .unset, .unset, .unset, .unset, .unset, .unset] [])) _
        refine XS.aloadN X13.here hx rfl (hb hby at_35) rfl rfl ?_
        show Steps p.tables e below (T13.setTop (mkF m 36 #[.val (.int p1), .val (.int p2), .val (.ref b1), .unset, .unset, .unset, .unset, .unset, .unset, .unset] [(.ref b1)])) _
        refine XS.iconst X13.here hx rfl (hb hby at_36) ?_
        show Steps p.tables e below (T13.setTop (mkF m 37 #[.val (.int p1), .val (.int p2), .val (.ref b1), .unset, .unset, .unset, .unset, .unset, .unset, .unset] [(.int (0 : Int32)), (.ref b1)])) _
        refine st15 _ ?_
        show Steps p.tables e below (T15.setTop (mkF m 40 #[.val (.int p1), .val (.int p2), .val (.ref b1), .unset, .unset, .unset, .unset, .unset, .unset, .unset] [(.int (own_isr g0 g1 g2 g3 0))])) _
        refine XS.ifNo X15.here hx rfl (hb hby at_40) rfl ((if0 _ _).trans (feq (ht0 : ¬ ((own_isr g0 g1 g2 g3 0) = (0 : Int32)))).1) ?_
        show Steps p.tables e below (T15.setTop (mkF m 43 #[.val (.int p1), .val (.int p2), .val (.ref b1), .unset, .unset, .unset, .unset, .unset, .unset, .unset] [])) _
        refine XS.aloadN X15.here hx rfl (hb hby at_43) rfl rfl ?_
        show Steps p.tables e below (T15.setTop (mkF m 44 #[.val (.int p1), .val (.int p2), .val (.ref b1), .unset, .unset, .unset, .unset, .unset, .unset, .unset] [(.ref b1)])) _
        refine XS.iconst X15.here hx rfl (hb hby at_44) ?_
        show Steps p.tables e below (T15.setTop (mkF m 45 #[.val (.int p1), .val (.int p2), .val (.ref b1), .unset, .unset, .unset, .unset, .unset, .unset, .unset] [(.int (1 : Int32)), (.ref b1)])) _
        refine st16 _ ?_
        show Steps p.tables e below (T16.setTop (mkF m 48 #[.val (.int p1), .val (.int p2), .val (.ref b1), .unset, .unset, .unset, .unset, .unset, .unset, .unset] [(.int (own_isr g0 g1 g2 g3 1))])) _
        refine XS.ifYes X16.here hx rfl (pc0 := 48) (pc' := 67) rfl (hb hby at_48) rfl ((if0 _ _).trans (teq (ht1 : (own_isr g0 g1 g2 g3 1) = (0 : Int32))).1) (by decide) (by decide) ?_
        show Steps p.tables e below (T16.setTop (mkF m 67 #[.val (.int p1), .val (.int p2), .val (.ref b1), .unset, .unset, .unset, .unset, .unset, .unset, .unset] [])) _
        refine XS.iconst X16.here hx rfl (hb hby at_67) ?_
        show Steps p.tables e below (T16.setTop (mkF m 68 #[.val (.int p1), .val (.int p2), .val (.ref b1), .unset, .unset, .unset, .unset, .unset, .unset, .unset] [(.int (1 : Int32))])) _
        exact retN X16 hx (t := .boolean) Bd.returns (by simp) (hb hby at_68) hr
      · show Qrm0 Z p1 p2  h0 n0 _ T16.heap _
        rw [e16]
        exact ⟨rfl, N16⟩
    · obtain ⟨_, _, ⟨T17, L17, k17, n17⟩, -, X17, ⟨Lc17, hQ17, l17, y17, z17⟩, st17⟩ := Jvm.LawKit.callS X16 hx (y := (⟨"com/example/etape/etape/chart/EnclosureForestOutermostPinLaw", "isRootOf", "([II)Z"⟩ : MethodName)) hown (mvT hZ (hw _ (List.mem_of_getElem? (i := 1) rfl))) (mvT hZ (hw _ (List.mem_of_getElem? (i := 2) rfl))) (mvT hZ (hw _ (List.mem_of_getElem? (i := 3) rfl))) (mvT hZ (hw _ (List.mem_of_getElem? (i := 4) rfl))) (by decide) (backOf (W := 0) (rm1 l Z a0 hw [] b1 2 g0 g1 g2 g3 k1 h13 n0 Z14 (by omega) hG V13) hZ (hw _ (List.mem_of_getElem? (i := 4) rfl)) (hw _ (List.mem_of_getElem? (i := 3) rfl)) (by decide) (by decide)) (g := (mkF m 53 #[.val (.int p1), .val (.int p2), .val (.ref b1), .unset, .unset, .unset, .unset, .unset, .unset, .unset] [(.int (2 : Int32)), (.ref b1)])) rfl (by rw [hml]; rfl) (argsL := [(.ref b1), (.int (2 : Int32))]) (rest := []) (lenOf pd_2 rfl) rfl (by show 2 * 0 + _ ≤ _; exact Nat.le_of_eq rfl) (hb hby at_53) (fun _ _ => ⟨rfl, e16, (by decide : 1 + 0 ≤ _), (by decide : 4 + 0 ≤ _)⟩)
      dsimp only [Pt.U, Pt.locs, Pt.cells, Pt.slots] at X17 l17 y17 z17 st17 hQ17
      subst l17 y17 z17
      obtain ⟨rfl, N17q, e17⟩ := hQ17
      have N17 := Fr.app N16 N17q
      by_cases ht2 : (own_isr g0 g1 g2 g3 2) = (0 : Int32)
      · obtain ⟨fs, hr, hrun, hended, hW, hsame⟩ := X17.leave (v := some (.int (1 : Int32))) (fun h => by rw [Bd.returns] at h; cases h)
        refine ⟨_, _, pre0 _ ?_, hrun, hended, _, _, rfl, ?_, ⟨_, rfl⟩, hW, hsame.mono (by decide) (by decide)⟩
        · show Steps p.tables e below (s₁.setTop (mkF m 0 #[.val (.int p1), .val (.int p2), .unset, .unset, .unset, .unset, .unset, .unset, .unset, .unset] [])) _
          refine XS.iconst X0.here hx rfl (hb hby at_0) ?_
          show Steps p.tables e below (s₁.setTop (mkF m 1 #[.val (.int p1), .val (.int p2), .unset, .unset, .unset, .unset, .unset, .unset, .unset, .unset] [(.int (4 : Int32))])) _
          refine st1 _ ?_
          show Steps p.tables e below (T1.setTop (mkF m 3 #[.val (.int p1), .val (.int p2), .unset, .unset, .unset, .unset, .unset, .unset, .unset, .unset] [(.ref b1)])) _
          refine XS.astoreN X1.here hx rfl (hb hby at_3) rfl rfl (l' := #[.val (.int p1), .val (.int p2), .val (.ref b1), .unset, .unset, .unset, .unset, .unset, .unset, .unset]) rfl ?_
          show Steps p.tables e below (T1.setTop (mkF m 4 #[.val (.int p1), .val (.int p2), .val (.ref b1), .unset, .unset, .unset, .unset, .unset, .unset, .unset] [])) _
          refine XS.aloadN X1.here hx rfl (hb hby at_4) rfl rfl ?_
          show Steps p.tables e below (T1.setTop (mkF m 5 #[.val (.int p1), .val (.int p2), .val (.ref b1), .unset, .unset, .unset, .unset, .unset, .unset, .unset] [(.ref b1)])) _
          refine XS.iconst X1.here hx rfl (hb hby at_5) ?_
          show Steps p.tables e below (T1.setTop (mkF m 6 #[.val (.int p1), .val (.int p2), .val (.ref b1), .unset, .unset, .unset, .unset, .unset, .unset, .unset] [(.int (0 : Int32)), (.ref b1)])) _
          refine XS.iloadN X1.here hx rfl (hb hby at_6) rfl ?_
          show Steps p.tables e below (T1.setTop (mkF m 7 #[.val (.int p1), .val (.int p2), .val (.ref b1), .unset, .unset, .unset, .unset, .unset, .unset, .unset] [(.int p1), (.int (0 : Int32)), (.ref b1)])) _
          refine XS.iconst X1.here hx rfl (hb hby at_7) ?_
          show Steps p.tables e below (T1.setTop (mkF m 8 #[.val (.int p1), .val (.int p2), .val (.ref b1), .unset, .unset, .unset, .unset, .unset, .unset, .unset] [(.int (3 : Int32)), (.int p1), (.int (0 : Int32)), (.ref b1)])) _
          refine XS.iand X1.here hx rfl (hb hby at_8) rfl ?_
          show Steps p.tables e below (T1.setTop (mkF m 9 #[.val (.int p1), .val (.int p2), .val (.ref b1), .unset, .unset, .unset, .unset, .unset, .unset, .unset] [(.int (p1 &&& (3 : Int32))), (.int (0 : Int32)), (.ref b1)])) _
          rw [eg0]
          show Steps p.tables e below (T1.setTop (mkF m 9 #[.val (.int p1), .val (.int p2), .val (.ref b1), .unset, .unset, .unset, .unset, .unset, .unset, .unset] [(.int (Int32.ofNat g0)), (.int (0 : Int32)), (.ref b1)])) _
          refine st4 _ ?_
          show Steps p.tables e below (T4.setTop (mkF m 10 #[.val (.int p1), .val (.int p2), .val (.ref b1), .unset, .unset, .unset, .unset, .unset, .unset, .unset] [])) _
          refine XS.aloadN X4.here hx rfl (hb hby at_10) rfl rfl ?_
          show Steps p.tables e below (T4.setTop (mkF m 11 #[.val (.int p1), .val (.int p2), .val (.ref b1), .unset, .unset, .unset, .unset, .unset, .unset, .unset] [(.ref b1)])) _
          refine XS.iconst X4.here hx rfl (hb hby at_11) ?_
          show Steps p.tables e below (T4.setTop (mkF m 12 #[.val (.int p1), .val (.int p2), .val (.ref b1), .unset, .unset, .unset, .unset, .unset, .unset, .unset] [(.int (1 : Int32)), (.ref b1)])) _
          refine XS.iloadN X4.here hx rfl (hb hby at_12) rfl ?_
          show Steps p.tables e below (T4.setTop (mkF m 13 #[.val (.int p1), .val (.int p2), .val (.ref b1), .unset, .unset, .unset, .unset, .unset, .unset, .unset] [(.int p1), (.int (1 : Int32)), (.ref b1)])) _
          refine XS.iconst X4.here hx rfl (hb hby at_13) ?_
          show Steps p.tables e below (T4.setTop (mkF m 14 #[.val (.int p1), .val (.int p2), .val (.ref b1), .unset, .unset, .unset, .unset, .unset, .unset, .unset] [(.int (2 : Int32)), (.int p1), (.int (1 : Int32)), (.ref b1)])) _
          refine XS.iushr X4.here hx rfl (hb hby at_14) rfl ?_
          show Steps p.tables e below (T4.setTop (mkF m 15 #[.val (.int p1), .val (.int p2), .val (.ref b1), .unset, .unset, .unset, .unset, .unset, .unset, .unset] [(.int (own_sh (2 : Int32) p1)), (.int (1 : Int32)), (.ref b1)])) _
          refine XS.iconst X4.here hx rfl (hb hby at_15) ?_
          show Steps p.tables e below (T4.setTop (mkF m 16 #[.val (.int p1), .val (.int p2), .val (.ref b1), .unset, .unset, .unset, .unset, .unset, .unset, .unset] [(.int (3 : Int32)), (.int (own_sh (2 : Int32) p1)), (.int (1 : Int32)), (.ref b1)])) _
          refine XS.iand X4.here hx rfl (hb hby at_16) rfl ?_
          show Steps p.tables e below (T4.setTop (mkF m 17 #[.val (.int p1), .val (.int p2), .val (.ref b1), .unset, .unset, .unset, .unset, .unset, .unset, .unset] [(.int ((own_sh (2 : Int32) p1) &&& (3 : Int32))), (.int (1 : Int32)), (.ref b1)])) _
          rw [eg1]
          show Steps p.tables e below (T4.setTop (mkF m 17 #[.val (.int p1), .val (.int p2), .val (.ref b1), .unset, .unset, .unset, .unset, .unset, .unset, .unset] [(.int (Int32.ofNat g1)), (.int (1 : Int32)), (.ref b1)])) _
          refine st7 _ ?_
          show Steps p.tables e below (T7.setTop (mkF m 18 #[.val (.int p1), .val (.int p2), .val (.ref b1), .unset, .unset, .unset, .unset, .unset, .unset, .unset] [])) _
          refine XS.aloadN X7.here hx rfl (hb hby at_18) rfl rfl ?_
          show Steps p.tables e below (T7.setTop (mkF m 19 #[.val (.int p1), .val (.int p2), .val (.ref b1), .unset, .unset, .unset, .unset, .unset, .unset, .unset] [(.ref b1)])) _
          refine XS.iconst X7.here hx rfl (hb hby at_19) ?_
          show Steps p.tables e below (T7.setTop (mkF m 20 #[.val (.int p1), .val (.int p2), .val (.ref b1), .unset, .unset, .unset, .unset, .unset, .unset, .unset] [(.int (2 : Int32)), (.ref b1)])) _
          refine XS.iloadN X7.here hx rfl (hb hby at_20) rfl ?_
          show Steps p.tables e below (T7.setTop (mkF m 21 #[.val (.int p1), .val (.int p2), .val (.ref b1), .unset, .unset, .unset, .unset, .unset, .unset, .unset] [(.int p1), (.int (2 : Int32)), (.ref b1)])) _
          refine XS.iconst X7.here hx rfl (hb hby at_21) ?_
          show Steps p.tables e below (T7.setTop (mkF m 22 #[.val (.int p1), .val (.int p2), .val (.ref b1), .unset, .unset, .unset, .unset, .unset, .unset, .unset] [(.int (4 : Int32)), (.int p1), (.int (2 : Int32)), (.ref b1)])) _
          refine XS.iushr X7.here hx rfl (hb hby at_22) rfl ?_
          show Steps p.tables e below (T7.setTop (mkF m 23 #[.val (.int p1), .val (.int p2), .val (.ref b1), .unset, .unset, .unset, .unset, .unset, .unset, .unset] [(.int (own_sh (4 : Int32) p1)), (.int (2 : Int32)), (.ref b1)])) _
          refine XS.iconst X7.here hx rfl (hb hby at_23) ?_
          show Steps p.tables e below (T7.setTop (mkF m 24 #[.val (.int p1), .val (.int p2), .val (.ref b1), .unset, .unset, .unset, .unset, .unset, .unset, .unset] [(.int (3 : Int32)), (.int (own_sh (4 : Int32) p1)), (.int (2 : Int32)), (.ref b1)])) _
          refine XS.iand X7.here hx rfl (hb hby at_24) rfl ?_
          show Steps p.tables e below (T7.setTop (mkF m 25 #[.val (.int p1), .val (.int p2), .val (.ref b1), .unset, .unset, .unset, .unset, .unset, .unset, .unset] [(.int ((own_sh (4 : Int32) p1) &&& (3 : Int32))), (.int (2 : Int32)), (.ref b1)])) _
          rw [eg2]
          show Steps p.tables e below (T7.setTop (mkF m 25 #[.val (.int p1), .val (.int p2), .val (.ref b1), .unset, .unset, .unset, .unset, .unset, .unset, .unset] [(.int (Int32.ofNat g2)), (.int (2 : Int32)), (.ref b1)])) _
          refine st10 _ ?_
          show Steps p.tables e below (T10.setTop (mkF m 26 #[.val (.int p1), .val (.int p2), .val (.ref b1), .unset, .unset, .unset, .unset, .unset, .unset, .unset] [])) _
          refine XS.aloadN X10.here hx rfl (hb hby at_26) rfl rfl ?_
          show Steps p.tables e below (T10.setTop (mkF m 27 #[.val (.int p1), .val (.int p2), .val (.ref b1), .unset, .unset, .unset, .unset, .unset, .unset, .unset] [(.ref b1)])) _
          refine XS.iconst X10.here hx rfl (hb hby at_27) ?_
          show Steps p.tables e below (T10.setTop (mkF m 28 #[.val (.int p1), .val (.int p2), .val (.ref b1), .unset, .unset, .unset, .unset, .unset, .unset, .unset] [(.int (3 : Int32)), (.ref b1)])) _
          refine XS.iloadN X10.here hx rfl (hb hby at_28) rfl ?_
          show Steps p.tables e below (T10.setTop (mkF m 29 #[.val (.int p1), .val (.int p2), .val (.ref b1), .unset, .unset, .unset, .unset, .unset, .unset, .unset] [(.int p1), (.int (3 : Int32)), (.ref b1)])) _
          refine XS.bipush X10.here hx rfl (hb hby at_29) ?_
          show Steps p.tables e below (T10.setTop (mkF m 31 #[.val (.int p1), .val (.int p2), .val (.ref b1), .unset, .unset, .unset, .unset, .unset, .unset, .unset] [(.int (6 : Int32)), (.int p1), (.int (3 : Int32)), (.ref b1)])) _
          refine XS.iushr X10.here hx rfl (hb hby at_31) rfl ?_
          show Steps p.tables e below (T10.setTop (mkF m 32 #[.val (.int p1), .val (.int p2), .val (.ref b1), .unset, .unset, .unset, .unset, .unset, .unset, .unset] [(.int (own_sh (6 : Int32) p1)), (.int (3 : Int32)), (.ref b1)])) _
          refine XS.iconst X10.here hx rfl (hb hby at_32) ?_
          show Steps p.tables e below (T10.setTop (mkF m 33 #[.val (.int p1), .val (.int p2), .val (.ref b1), .unset, .unset, .unset, .unset, .unset, .unset, .unset] [(.int (3 : Int32)), (.int (own_sh (6 : Int32) p1)), (.int (3 : Int32)), (.ref b1)])) _
          refine XS.iand X10.here hx rfl (hb hby at_33) rfl ?_
          show Steps p.tables e below (T10.setTop (mkF m 34 #[.val (.int p1), .val (.int p2), .val (.ref b1), .unset, .unset, .unset, .unset, .unset, .unset, .unset] [(.int ((own_sh (6 : Int32) p1) &&& (3 : Int32))), (.int (3 : Int32)), (.ref b1)])) _
          rw [eg3]
          show Steps p.tables e below (T10.setTop (mkF m 34 #[.val (.int p1), .val (.int p2), .val (.ref b1), .unset, .unset, .unset, .unset, .unset, .unset, .unset] [(.int (Int32.ofNat g3)), (.int (3 : Int32)), (.ref b1)])) _
          refine st13 _ ?_
          show Steps p.tables e below (T13.setTop (mkF m 35 #[.val (.int p1), .val (.int p2), .val (.ref b1), .unset, .unset, .unset, .unset, .unset, .unset, .unset] [])) _
          refine XS.aloadN X13.here hx rfl (hb hby at_35) rfl rfl ?_
          show Steps p.tables e below (T13.setTop (mkF m 36 #[.val (.int p1), .val (.int p2), .val (.ref b1), .unset, .unset, .unset, .unset, .unset, .unset, .unset] [(.ref b1)])) _
          refine XS.iconst X13.here hx rfl (hb hby at_36) ?_
          show Steps p.tables e below (T13.setTop (mkF m 37 #[.val (.int p1), .val (.int p2), .val (.ref b1), .unset, .unset, .unset, .unset, .unset, .unset, .unset] [(.int (0 : Int32)), (.ref b1)])) _
          refine st15 _ ?_
          show Steps p.tables e below (T15.setTop (mkF m 40 #[.val (.int p1), .val (.int p2), .val (.ref b1), .unset, .unset, .unset, .unset, .unset, .unset, .unset] [(.int (own_isr g0 g1 g2 g3 0))])) _
          refine XS.ifNo X15.here hx rfl (hb hby at_40) rfl ((if0 _ _).trans (feq (ht0 : ¬ ((own_isr g0 g1 g2 g3 0) = (0 : Int32)))).1) ?_
          show Steps p.tables e below (T15.setTop (mkF m 43 #[.val (.int p1), .val (.int p2), .val (.ref b1), .unset, .unset, .unset, .unset, .unset, .unset, .unset] [])) _
          refine XS.aloadN X15.here hx rfl (hb hby at_43) rfl rfl ?_
          show Steps p.tables e below (T15.setTop (mkF m 44 #[.val (.int p1), .val (.int p2), .val (.ref b1), .unset, .unset, .unset, .unset, .unset, .unset, .unset] [(.ref b1)])) _
          refine XS.iconst X15.here hx rfl (hb hby at_44) ?_
          show Steps p.tables e below (T15.setTop (mkF m 45 #[.val (.int p1), .val (.int p2), .val (.ref b1), .unset, .unset, .unset, .unset, .unset, .unset, .unset] [(.int (1 : Int32)), (.ref b1)])) _
          refine st16 _ ?_
          show Steps p.tables e below (T16.setTop (mkF m 48 #[.val (.int p1), .val (.int p2), .val (.ref b1), .unset, .unset, .unset, .unset, .unset, .unset, .unset] [(.int (own_isr g0 g1 g2 g3 1))])) _
          refine XS.ifNo X16.here hx rfl (hb hby at_48) rfl ((if0 _ _).trans (feq (ht1 : ¬ ((own_isr g0 g1 g2 g3 1) = (0 : Int32)))).1) ?_
          show Steps p.tables e below (T16.setTop (mkF m 51 #[.val (.int p1), .val (.int p2), .val (.ref b1), .unset, .unset, .unset, .unset, .unset, .unset, .unset] [])) _
          refine XS.aloadN X16.here hx rfl (hb hby at_51) rfl rfl ?_
          show Steps p.tables e below (T16.setTop (mkF m 52 #[.val (.int p1), .val (.int p2), .val (.ref b1), .unset, .unset, .unset, .unset, .unset, .unset, .unset] [(.ref b1)])) _
          refine XS.iconst X16.here hx rfl (hb hby at_52) ?_
          show Steps p.tables e below (T16.setTop (mkF m 53 #[.val (.int p1), .val (.int p2), .val (.ref b1), .unset, .unset, .unset, .unset, .unset, .unset, .unset] [(.int (2 : Int32)), (.ref b1)])) _
          refine st17 _ ?_
          show Steps p.tables e below (T17.setTop (mkF m 56 #[.val (.int p1), .val (.int p2), .val (.ref b1), .unset, .unset, .unset, .unset, .unset, .unset, .unset] [(.int (own_isr g0 g1 g2 g3 2))])) _
          refine XS.ifYes X17.here hx rfl (pc0 := 56) (pc' := 67) rfl (hb hby at_56) rfl ((if0 _ _).trans (teq (ht2 : (own_isr g0 g1 g2 g3 2) = (0 : Int32))).1) (by decide) (by decide) ?_
          show Steps p.tables e below (T17.setTop (mkF m 67 #[.val (.int p1), .val (.int p2), .val (.ref b1), .unset, .unset, .unset, .unset, .unset, .unset, .unset] [])) _
          refine XS.iconst X17.here hx rfl (hb hby at_67) ?_
          show Steps p.tables e below (T17.setTop (mkF m 68 #[.val (.int p1), .val (.int p2), .val (.ref b1), .unset, .unset, .unset, .unset, .unset, .unset, .unset] [(.int (1 : Int32))])) _
          exact retN X17 hx (t := .boolean) Bd.returns (by simp) (hb hby at_68) hr
        · show Qrm0 Z p1 p2  h0 n0 _ T17.heap _
          rw [e17]
          exact ⟨rfl, N17⟩
      · obtain ⟨_, _, ⟨T18, L18, k18, n18⟩, -, X18, ⟨Lc18, hQ18, l18, y18, z18⟩, st18⟩ := Jvm.LawKit.callS X17 hx (y := (⟨"com/example/etape/etape/chart/EnclosureForestOutermostPinLaw", "isRootOf", "([II)Z"⟩ : MethodName)) hown (mvT hZ (hw _ (List.mem_of_getElem? (i := 1) rfl))) (mvT hZ (hw _ (List.mem_of_getElem? (i := 2) rfl))) (mvT hZ (hw _ (List.mem_of_getElem? (i := 3) rfl))) (mvT hZ (hw _ (List.mem_of_getElem? (i := 4) rfl))) (by decide) (backOf (W := 0) (rm1 l Z a0 hw [] b1 3 g0 g1 g2 g3 k1 h13 n0 Z14 (by omega) hG V13) hZ (hw _ (List.mem_of_getElem? (i := 4) rfl)) (hw _ (List.mem_of_getElem? (i := 3) rfl)) (by decide) (by decide)) (g := (mkF m 61 #[.val (.int p1), .val (.int p2), .val (.ref b1), .unset, .unset, .unset, .unset, .unset, .unset, .unset] [(.int (3 : Int32)), (.ref b1)])) rfl (by rw [hml]; rfl) (argsL := [(.ref b1), (.int (3 : Int32))]) (rest := []) (lenOf pd_2 rfl) rfl (by show 2 * 0 + _ ≤ _; exact Nat.le_of_eq rfl) (hb hby at_61) (fun _ _ => ⟨rfl, e17, (by decide : 1 + 0 ≤ _), (by decide : 4 + 0 ≤ _)⟩)
        dsimp only [Pt.U, Pt.locs, Pt.cells, Pt.slots] at X18 l18 y18 z18 st18 hQ18
        subst l18 y18 z18
        obtain ⟨rfl, N18q, e18⟩ := hQ18
        have N18 := Fr.app N17 N18q
        by_cases ht3 : (own_isr g0 g1 g2 g3 3) = (0 : Int32)
        · obtain ⟨fs, hr, hrun, hended, hW, hsame⟩ := X18.leave (v := some (.int (1 : Int32))) (fun h => by rw [Bd.returns] at h; cases h)
          refine ⟨_, _, pre0 _ ?_, hrun, hended, _, _, rfl, ?_, ⟨_, rfl⟩, hW, hsame.mono (by decide) (by decide)⟩
          · show Steps p.tables e below (s₁.setTop (mkF m 0 #[.val (.int p1), .val (.int p2), .unset, .unset, .unset, .unset, .unset, .unset, .unset, .unset] [])) _
            refine XS.iconst X0.here hx rfl (hb hby at_0) ?_
            show Steps p.tables e below (s₁.setTop (mkF m 1 #[.val (.int p1), .val (.int p2), .unset, .unset, .unset, .unset, .unset, .unset, .unset, .unset] [(.int (4 : Int32))])) _
            refine st1 _ ?_
            show Steps p.tables e below (T1.setTop (mkF m 3 #[.val (.int p1), .val (.int p2), .unset, .unset, .unset, .unset, .unset, .unset, .unset, .unset] [(.ref b1)])) _
            refine XS.astoreN X1.here hx rfl (hb hby at_3) rfl rfl (l' := #[.val (.int p1), .val (.int p2), .val (.ref b1), .unset, .unset, .unset, .unset, .unset, .unset, .unset]) rfl ?_
            show Steps p.tables e below (T1.setTop (mkF m 4 #[.val (.int p1), .val (.int p2), .val (.ref b1), .unset, .unset, .unset, .unset, .unset, .unset, .unset] [])) _
            refine XS.aloadN X1.here hx rfl (hb hby at_4) rfl rfl ?_
            show Steps p.tables e below (T1.setTop (mkF m 5 #[.val (.int p1), .val (.int p2), .val (.ref b1), .unset, .unset, .unset, .unset, .unset, .unset, .unset] [(.ref b1)])) _
            refine XS.iconst X1.here hx rfl (hb hby at_5) ?_
            show Steps p.tables e below (T1.setTop (mkF m 6 #[.val (.int p1), .val (.int p2), .val (.ref b1), .unset, .unset, .unset, .unset, .unset, .unset, .unset] [(.int (0 : Int32)), (.ref b1)])) _
            refine XS.iloadN X1.here hx rfl (hb hby at_6) rfl ?_
            show Steps p.tables e below (T1.setTop (mkF m 7 #[.val (.int p1), .val (.int p2), .val (.ref b1), .unset, .unset, .unset, .unset, .unset, .unset, .unset] [(.int p1), (.int (0 : Int32)), (.ref b1)])) _
            refine XS.iconst X1.here hx rfl (hb hby at_7) ?_
            show Steps p.tables e below (T1.setTop (mkF m 8 #[.val (.int p1), .val (.int p2), .val (.ref b1), .unset, .unset, .unset, .unset, .unset, .unset, .unset] [(.int (3 : Int32)), (.int p1), (.int (0 : Int32)), (.ref b1)])) _
            refine XS.iand X1.here hx rfl (hb hby at_8) rfl ?_
            show Steps p.tables e below (T1.setTop (mkF m 9 #[.val (.int p1), .val (.int p2), .val (.ref b1), .unset, .unset, .unset, .unset, .unset, .unset, .unset] [(.int (p1 &&& (3 : Int32))), (.int (0 : Int32)), (.ref b1)])) _
            rw [eg0]
            show Steps p.tables e below (T1.setTop (mkF m 9 #[.val (.int p1), .val (.int p2), .val (.ref b1), .unset, .unset, .unset, .unset, .unset, .unset, .unset] [(.int (Int32.ofNat g0)), (.int (0 : Int32)), (.ref b1)])) _
            refine st4 _ ?_
            show Steps p.tables e below (T4.setTop (mkF m 10 #[.val (.int p1), .val (.int p2), .val (.ref b1), .unset, .unset, .unset, .unset, .unset, .unset, .unset] [])) _
            refine XS.aloadN X4.here hx rfl (hb hby at_10) rfl rfl ?_
            show Steps p.tables e below (T4.setTop (mkF m 11 #[.val (.int p1), .val (.int p2), .val (.ref b1), .unset, .unset, .unset, .unset, .unset, .unset, .unset] [(.ref b1)])) _
            refine XS.iconst X4.here hx rfl (hb hby at_11) ?_
            show Steps p.tables e below (T4.setTop (mkF m 12 #[.val (.int p1), .val (.int p2), .val (.ref b1), .unset, .unset, .unset, .unset, .unset, .unset, .unset] [(.int (1 : Int32)), (.ref b1)])) _
            refine XS.iloadN X4.here hx rfl (hb hby at_12) rfl ?_
            show Steps p.tables e below (T4.setTop (mkF m 13 #[.val (.int p1), .val (.int p2), .val (.ref b1), .unset, .unset, .unset, .unset, .unset, .unset, .unset] [(.int p1), (.int (1 : Int32)), (.ref b1)])) _
            refine XS.iconst X4.here hx rfl (hb hby at_13) ?_
            show Steps p.tables e below (T4.setTop (mkF m 14 #[.val (.int p1), .val (.int p2), .val (.ref b1), .unset, .unset, .unset, .unset, .unset, .unset, .unset] [(.int (2 : Int32)), (.int p1), (.int (1 : Int32)), (.ref b1)])) _
            refine XS.iushr X4.here hx rfl (hb hby at_14) rfl ?_
            show Steps p.tables e below (T4.setTop (mkF m 15 #[.val (.int p1), .val (.int p2), .val (.ref b1), .unset, .unset, .unset, .unset, .unset, .unset, .unset] [(.int (own_sh (2 : Int32) p1)), (.int (1 : Int32)), (.ref b1)])) _
            refine XS.iconst X4.here hx rfl (hb hby at_15) ?_
            show Steps p.tables e below (T4.setTop (mkF m 16 #[.val (.int p1), .val (.int p2), .val (.ref b1), .unset, .unset, .unset, .unset, .unset, .unset, .unset] [(.int (3 : Int32)), (.int (own_sh (2 : Int32) p1)), (.int (1 : Int32)), (.ref b1)])) _
            refine XS.iand X4.here hx rfl (hb hby at_16) rfl ?_
            show Steps p.tables e below (T4.setTop (mkF m 17 #[.val (.int p1), .val (.int p2), .val (.ref b1), .unset, .unset, .unset, .unset, .unset, .unset, .unset] [(.int ((own_sh (2 : Int32) p1) &&& (3 : Int32))), (.int (1 : Int32)), (.ref b1)])) _
            rw [eg1]
            show Steps p.tables e below (T4.setTop (mkF m 17 #[.val (.int p1), .val (.int p2), .val (.ref b1), .unset, .unset, .unset, .unset, .unset, .unset, .unset] [(.int (Int32.ofNat g1)), (.int (1 : Int32)), (.ref b1)])) _
            refine st7 _ ?_
            show Steps p.tables e below (T7.setTop (mkF m 18 #[.val (.int p1), .val (.int p2), .val (.ref b1), .unset, .unset, .unset, .unset, .unset, .unset, .unset] [])) _
            refine XS.aloadN X7.here hx rfl (hb hby at_18) rfl rfl ?_
            show Steps p.tables e below (T7.setTop (mkF m 19 #[.val (.int p1), .val (.int p2), .val (.ref b1), .unset, .unset, .unset, .unset, .unset, .unset, .unset] [(.ref b1)])) _
            refine XS.iconst X7.here hx rfl (hb hby at_19) ?_
            show Steps p.tables e below (T7.setTop (mkF m 20 #[.val (.int p1), .val (.int p2), .val (.ref b1), .unset, .unset, .unset, .unset, .unset, .unset, .unset] [(.int (2 : Int32)), (.ref b1)])) _
            refine XS.iloadN X7.here hx rfl (hb hby at_20) rfl ?_
            show Steps p.tables e below (T7.setTop (mkF m 21 #[.val (.int p1), .val (.int p2), .val (.ref b1), .unset, .unset, .unset, .unset, .unset, .unset, .unset] [(.int p1), (.int (2 : Int32)), (.ref b1)])) _
            refine XS.iconst X7.here hx rfl (hb hby at_21) ?_
            show Steps p.tables e below (T7.setTop (mkF m 22 #[.val (.int p1), .val (.int p2), .val (.ref b1), .unset, .unset, .unset, .unset, .unset, .unset, .unset] [(.int (4 : Int32)), (.int p1), (.int (2 : Int32)), (.ref b1)])) _
            refine XS.iushr X7.here hx rfl (hb hby at_22) rfl ?_
            show Steps p.tables e below (T7.setTop (mkF m 23 #[.val (.int p1), .val (.int p2), .val (.ref b1), .unset, .unset, .unset, .unset, .unset, .unset, .unset] [(.int (own_sh (4 : Int32) p1)), (.int (2 : Int32)), (.ref b1)])) _
            refine XS.iconst X7.here hx rfl (hb hby at_23) ?_
            show Steps p.tables e below (T7.setTop (mkF m 24 #[.val (.int p1), .val (.int p2), .val (.ref b1), .unset, .unset, .unset, .unset, .unset, .unset, .unset] [(.int (3 : Int32)), (.int (own_sh (4 : Int32) p1)), (.int (2 : Int32)), (.ref b1)])) _
            refine XS.iand X7.here hx rfl (hb hby at_24) rfl ?_
            show Steps p.tables e below (T7.setTop (mkF m 25 #[.val (.int p1), .val (.int p2), .val (.ref b1), .unset, .unset, .unset, .unset, .unset, .unset, .unset] [(.int ((own_sh (4 : Int32) p1) &&& (3 : Int32))), (.int (2 : Int32)), (.ref b1)])) _
            rw [eg2]
            show Steps p.tables e below (T7.setTop (mkF m 25 #[.val (.int p1), .val (.int p2), .val (.ref b1), .unset, .unset, .unset, .unset, .unset, .unset, .unset] [(.int (Int32.ofNat g2)), (.int (2 : Int32)), (.ref b1)])) _
            refine st10 _ ?_
            show Steps p.tables e below (T10.setTop (mkF m 26 #[.val (.int p1), .val (.int p2), .val (.ref b1), .unset, .unset, .unset, .unset, .unset, .unset, .unset] [])) _
            refine XS.aloadN X10.here hx rfl (hb hby at_26) rfl rfl ?_
            show Steps p.tables e below (T10.setTop (mkF m 27 #[.val (.int p1), .val (.int p2), .val (.ref b1), .unset, .unset, .unset, .unset, .unset, .unset, .unset] [(.ref b1)])) _
            refine XS.iconst X10.here hx rfl (hb hby at_27) ?_
            show Steps p.tables e below (T10.setTop (mkF m 28 #[.val (.int p1), .val (.int p2), .val (.ref b1), .unset, .unset, .unset, .unset, .unset, .unset, .unset] [(.int (3 : Int32)), (.ref b1)])) _
            refine XS.iloadN X10.here hx rfl (hb hby at_28) rfl ?_
            show Steps p.tables e below (T10.setTop (mkF m 29 #[.val (.int p1), .val (.int p2), .val (.ref b1), .unset, .unset, .unset, .unset, .unset, .unset, .unset] [(.int p1), (.int (3 : Int32)), (.ref b1)])) _
            refine XS.bipush X10.here hx rfl (hb hby at_29) ?_
            show Steps p.tables e below (T10.setTop (mkF m 31 #[.val (.int p1), .val (.int p2), .val (.ref b1), .unset, .unset, .unset, .unset, .unset, .unset, .unset] [(.int (6 : Int32)), (.int p1), (.int (3 : Int32)), (.ref b1)])) _
            refine XS.iushr X10.here hx rfl (hb hby at_31) rfl ?_
            show Steps p.tables e below (T10.setTop (mkF m 32 #[.val (.int p1), .val (.int p2), .val (.ref b1), .unset, .unset, .unset, .unset, .unset, .unset, .unset] [(.int (own_sh (6 : Int32) p1)), (.int (3 : Int32)), (.ref b1)])) _
            refine XS.iconst X10.here hx rfl (hb hby at_32) ?_
            show Steps p.tables e below (T10.setTop (mkF m 33 #[.val (.int p1), .val (.int p2), .val (.ref b1), .unset, .unset, .unset, .unset, .unset, .unset, .unset] [(.int (3 : Int32)), (.int (own_sh (6 : Int32) p1)), (.int (3 : Int32)), (.ref b1)])) _
            refine XS.iand X10.here hx rfl (hb hby at_33) rfl ?_
            show Steps p.tables e below (T10.setTop (mkF m 34 #[.val (.int p1), .val (.int p2), .val (.ref b1), .unset, .unset, .unset, .unset, .unset, .unset, .unset] [(.int ((own_sh (6 : Int32) p1) &&& (3 : Int32))), (.int (3 : Int32)), (.ref b1)])) _
            rw [eg3]
            show Steps p.tables e below (T10.setTop (mkF m 34 #[.val (.int p1), .val (.int p2), .val (.ref b1), .unset, .unset, .unset, .unset, .unset, .unset, .unset] [(.int (Int32.ofNat g3)), (.int (3 : Int32)), (.ref b1)])) _
            refine st13 _ ?_
            show Steps p.tables e below (T13.setTop (mkF m 35 #[.val (.int p1), .val (.int p2), .val (.ref b1), .unset, .unset, .unset, .unset, .unset, .unset, .unset] [])) _
            refine XS.aloadN X13.here hx rfl (hb hby at_35) rfl rfl ?_
            show Steps p.tables e below (T13.setTop (mkF m 36 #[.val (.int p1), .val (.int p2), .val (.ref b1), .unset, .unset, .unset, .unset, .unset, .unset, .unset] [(.ref b1)])) _
            refine XS.iconst X13.here hx rfl (hb hby at_36) ?_
            show Steps p.tables e below (T13.setTop (mkF m 37 #[.val (.int p1), .val (.int p2), .val (.ref b1), .unset, .unset, .unset, .unset, .unset, .unset, .unset] [(.int (0 : Int32)), (.ref b1)])) _
            refine st15 _ ?_
            show Steps p.tables e below (T15.setTop (mkF m 40 #[.val (.int p1), .val (.int p2), .val (.ref b1), .unset, .unset, .unset, .unset, .unset, .unset, .unset] [(.int (own_isr g0 g1 g2 g3 0))])) _
            refine XS.ifNo X15.here hx rfl (hb hby at_40) rfl ((if0 _ _).trans (feq (ht0 : ¬ ((own_isr g0 g1 g2 g3 0) = (0 : Int32)))).1) ?_
            show Steps p.tables e below (T15.setTop (mkF m 43 #[.val (.int p1), .val (.int p2), .val (.ref b1), .unset, .unset, .unset, .unset, .unset, .unset, .unset] [])) _
            refine XS.aloadN X15.here hx rfl (hb hby at_43) rfl rfl ?_
            show Steps p.tables e below (T15.setTop (mkF m 44 #[.val (.int p1), .val (.int p2), .val (.ref b1), .unset, .unset, .unset, .unset, .unset, .unset, .unset] [(.ref b1)])) _
            refine XS.iconst X15.here hx rfl (hb hby at_44) ?_
            show Steps p.tables e below (T15.setTop (mkF m 45 #[.val (.int p1), .val (.int p2), .val (.ref b1), .unset, .unset, .unset, .unset, .unset, .unset, .unset] [(.int (1 : Int32)), (.ref b1)])) _
            refine st16 _ ?_
            show Steps p.tables e below (T16.setTop (mkF m 48 #[.val (.int p1), .val (.int p2), .val (.ref b1), .unset, .unset, .unset, .unset, .unset, .unset, .unset] [(.int (own_isr g0 g1 g2 g3 1))])) _
            refine XS.ifNo X16.here hx rfl (hb hby at_48) rfl ((if0 _ _).trans (feq (ht1 : ¬ ((own_isr g0 g1 g2 g3 1) = (0 : Int32)))).1) ?_
            show Steps p.tables e below (T16.setTop (mkF m 51 #[.val (.int p1), .val (.int p2), .val (.ref b1), .unset, .unset, .unset, .unset, .unset, .unset, .unset] [])) _
            refine XS.aloadN X16.here hx rfl (hb hby at_51) rfl rfl ?_
            show Steps p.tables e below (T16.setTop (mkF m 52 #[.val (.int p1), .val (.int p2), .val (.ref b1), .unset, .unset, .unset, .unset, .unset, .unset, .unset] [(.ref b1)])) _
            refine XS.iconst X16.here hx rfl (hb hby at_52) ?_
            show Steps p.tables e below (T16.setTop (mkF m 53 #[.val (.int p1), .val (.int p2), .val (.ref b1), .unset, .unset, .unset, .unset, .unset, .unset, .unset] [(.int (2 : Int32)), (.ref b1)])) _
            refine st17 _ ?_
            show Steps p.tables e below (T17.setTop (mkF m 56 #[.val (.int p1), .val (.int p2), .val (.ref b1), .unset, .unset, .unset, .unset, .unset, .unset, .unset] [(.int (own_isr g0 g1 g2 g3 2))])) _
            refine XS.ifNo X17.here hx rfl (hb hby at_56) rfl ((if0 _ _).trans (feq (ht2 : ¬ ((own_isr g0 g1 g2 g3 2) = (0 : Int32)))).1) ?_
            show Steps p.tables e below (T17.setTop (mkF m 59 #[.val (.int p1), .val (.int p2), .val (.ref b1), .unset, .unset, .unset, .unset, .unset, .unset, .unset] [])) _
            refine XS.aloadN X17.here hx rfl (hb hby at_59) rfl rfl ?_
            show Steps p.tables e below (T17.setTop (mkF m 60 #[.val (.int p1), .val (.int p2), .val (.ref b1), .unset, .unset, .unset, .unset, .unset, .unset, .unset] [(.ref b1)])) _
            refine XS.iconst X17.here hx rfl (hb hby at_60) ?_
            show Steps p.tables e below (T17.setTop (mkF m 61 #[.val (.int p1), .val (.int p2), .val (.ref b1), .unset, .unset, .unset, .unset, .unset, .unset, .unset] [(.int (3 : Int32)), (.ref b1)])) _
            refine st18 _ ?_
            show Steps p.tables e below (T18.setTop (mkF m 64 #[.val (.int p1), .val (.int p2), .val (.ref b1), .unset, .unset, .unset, .unset, .unset, .unset, .unset] [(.int (own_isr g0 g1 g2 g3 3))])) _
            refine XS.ifNo X18.here hx rfl (hb hby at_64) rfl ((if0 _ _).trans (teq (ht3 : (own_isr g0 g1 g2 g3 3) = (0 : Int32))).2) ?_
            show Steps p.tables e below (T18.setTop (mkF m 67 #[.val (.int p1), .val (.int p2), .val (.ref b1), .unset, .unset, .unset, .unset, .unset, .unset, .unset] [])) _
            refine XS.iconst X18.here hx rfl (hb hby at_67) ?_
            show Steps p.tables e below (T18.setTop (mkF m 68 #[.val (.int p1), .val (.int p2), .val (.ref b1), .unset, .unset, .unset, .unset, .unset, .unset, .unset] [(.int (1 : Int32))])) _
            exact retN X18 hx (t := .boolean) Bd.returns (by simp) (hb hby at_68) hr
          · show Qrm0 Z p1 p2  h0 n0 _ T18.heap _
            rw [e18]
            exact ⟨rfl, N18⟩
        · have hi0 := own_isr_inv hG ht0 ht1 ht2 ht3
          obtain ⟨T19, h19, X19, e19, E19, A19, D19, -, st19⟩ := newO X18 hx hZ hown (hw _ (List.mem_of_getElem? (i := 8) rfl)) (hw _ (List.mem_of_getElem? (i := 9) rfl)) (hw _ (List.mem_of_getElem? (i := 10) rfl)) e18 (g := (mkF m 69 #[.val (.int p1), .val (.int p2), .val (.ref b1), .unset, .unset, .unset, .unset, .unset, .unset, .unset] [])) rfl (hb hby at_69) (by decide) (by decide)
          obtain ⟨b19, gz19⟩ : ∃ z, z = h13.size := ⟨_, rfl⟩
          rw [← gz19] at A19 D19 st19
          have ne_b1_b19 : b1 ≠ b19 := Nat.ne_of_lt (Nat.lt_of_lt_of_le V13.lt (Nat.le_of_eq gz19.symm))
          have g_b19 : n0 ≤ b19 := Nat.le_trans Z14 (Nat.le_of_eq gz19.symm)
          have sz_b19 : h0.size ≤ b19 := Nat.le_trans ((((((Keep.refl h0 []).ext E1).wr W4 (Or.inr sz_b1)).wr W7 (Or.inr sz_b1)).wr W10 (Or.inr sz_b1)).wr W13 (Or.inr sz_b1)).1 (Nat.le_of_eq gz19.symm)
          have Z20 : n0 ≤ h19.size := Nat.le_trans Z14 E19.1
          have F_link_b19 : Fld Z h19 b19 "com/example/etape/etape/chart/EnclosureForest" "link" "[I" .null := D19 (Or.inl (hw _ (List.mem_of_getElem? (i := 18) rfl))) (ty := (.array .int)) (by decide)
          have F_size_b19 : Fld Z h19 b19 "com/example/etape/etape/chart/EnclosureForest" "size" "I" (.int (0 : Int32)) := D19 (Or.inl (hw _ (List.mem_of_getElem? (i := 25) rfl))) (ty := .int) (by decide)
          have f21 := V13.ext E19
          obtain ⟨_, _, ⟨T22, L22, k22, n22⟩, -, X22, ⟨Lc22, hQ22, l22, y22, z22⟩, st22⟩ := X19.specialBack hx (y := (⟨"com/example/etape/etape/chart/EnclosureForest", "<init>", "()V"⟩ : MethodName)) rfl hown (mvT hZ (hw _ (List.mem_of_getElem? (i := 11) rfl))) (mvT hZ (hw _ (List.mem_of_getElem? (i := 12) rfl))) (mvT hZ (hw _ (List.mem_of_getElem? (i := 13) rfl))) (by decide) (backOf (W := 1) (rm3 l Z a0 hw [] b19  h19 n0 Z20 A19 g_b19 F_link_b19 F_size_b19) hZ (hw _ (List.mem_of_getElem? (i := 13) rfl)) (hw _ (List.mem_of_getElem? (i := 10) rfl)) (by decide) (by decide)) (g := (mkF m 73 #[.val (.int p1), .val (.int p2), .val (.ref b1), .unset, .unset, .unset, .unset, .unset, .unset, .unset] [(.ref b19), (.ref b19)])) rfl (by rw [hml]; rfl) (Steps.refl _) (a := b19) (argsL := []) (rest := [(.ref b19)]) (lenOf pd_3 rfl) rfl (by show 2 * 0 + _ ≤ _; exact Nat.le_of_eq rfl) (hb hby at_73) (fun _ _ => ⟨rfl, e19, (by decide : 2 + 1 ≤ _), (by decide : 6 + 8 ≤ _)⟩)
          dsimp only [Pt.U, Pt.locs, Pt.cells, Pt.slots] at X22 l22 y22 z22 st22 hQ22
          subst l22 y22 z22
          obtain ⟨c22, kc22, rfl, N22q, K22, gc22, szc22, nec22, Ec22, Fz22, Fl22, Vc22⟩ := hQ22
          have N22 := Fr.app N18 N22q
          have Z23 : n0 ≤ T22.heap.size := Nat.le_trans Z20 K22.1
          have nebp : b1 ≠ c22 := Nat.ne_of_lt (Nat.lt_of_lt_of_le f21.lt szc22)
          obtain ⟨cq24, kq24, q24a, q24b, q24c⟩ := isOf hZ rfl Ec22
          obtain ⟨_, _, ⟨T24, L24, k24, n24⟩, -, X24, ⟨Lc24, hQ24, l24, y24, z24⟩, st24⟩ := X22.virtualBack hx (y := (⟨"com/example/etape/etape/chart/EnclosureForest", "add", "()V"⟩ : MethodName)) (z := (⟨"com/example/etape/etape/chart/EnclosureForest", "add", "()V"⟩ : MethodName)) hown (mvT hZ (hw _ (List.mem_of_getElem? (i := 19) rfl))) (mvT hZ (hw _ (List.mem_of_getElem? (i := 20) rfl))) (notFace_of_selects (args := #[]) (mvT hZ (hw _ (List.mem_of_getElem? (i := 22) rfl)))) (mvT hZ (hw _ (List.mem_of_getElem? (i := 22) rfl))) (mvT hZ (hw _ (List.mem_of_getElem? (i := 21) rfl))) (by decide) (backOf (W := 0) (rm5_0 l Z a0 hw [] b19 c22 kc22 (0 : Int32) (0 : Int32) (0 : Int32) (0 : Int32) (0 : Int32) (0 : Int32) (0 : Int32) (0 : Int32) T22.heap n0 Z23 Ec22 g_b19 gc22 nec22 Fz22 Fl22 Vc22) hZ (hw _ (List.mem_of_getElem? (i := 23) rfl)) (hw _ (List.mem_of_getElem? (i := 10) rfl)) (by decide) (by decide)) q24a q24c (g := (mkF m 78 #[.val (.int p1), .val (.int p2), .val (.ref b1), .val (.ref b19), .unset, .unset, .unset, .unset, .unset, .unset] [(.ref b19)])) rfl (by rw [hml]; rfl) (Steps.refl _) (argsL := []) (rest := []) (lenOf pd_3 rfl) rfl (by show 2 * 0 + _ ≤ _; exact Nat.le_of_eq rfl) (hb hby at_78) (fun _ _ => ⟨rfl, rfl, (by decide : 3 + 0 ≤ _), (by decide : 14 + 0 ≤ _)⟩)
          dsimp only [Pt.U, Pt.locs, Pt.cells, Pt.slots] at X24 l24 y24 z24 st24 hQ24
          subst l24 y24 z24
          obtain ⟨rfl, N24q, K24, Ec24, Fz24, Fl24, Vc24⟩ := hQ24
          have N24 := Fr.app N22 N24q
          have Z25 : n0 ≤ T24.heap.size := Nat.le_trans Z23 K24.1
          obtain ⟨cq26, kq26, q26a, q26b, q26c⟩ := isOf hZ rfl Ec24
          obtain ⟨_, _, ⟨T26, L26, k26, n26⟩, -, X26, ⟨Lc26, hQ26, l26, y26, z26⟩, st26⟩ := X24.virtualBack hx (y := (⟨"com/example/etape/etape/chart/EnclosureForest", "add", "()V"⟩ : MethodName)) (z := (⟨"com/example/etape/etape/chart/EnclosureForest", "add", "()V"⟩ : MethodName)) hown (mvT hZ (hw _ (List.mem_of_getElem? (i := 19) rfl))) (mvT hZ (hw _ (List.mem_of_getElem? (i := 20) rfl))) (notFace_of_selects (args := #[]) (mvT hZ (hw _ (List.mem_of_getElem? (i := 22) rfl)))) (mvT hZ (hw _ (List.mem_of_getElem? (i := 22) rfl))) (mvT hZ (hw _ (List.mem_of_getElem? (i := 21) rfl))) (by decide) (backOf (W := 0) (rm5_1 l Z a0 hw [] b19 c22 kc22 (0 : Int32) (0 : Int32) (0 : Int32) (0 : Int32) (0 : Int32) (0 : Int32) (0 : Int32) (0 : Int32) T24.heap n0 Z25 Ec24 g_b19 gc22 nec22 Fz24 Fl24 Vc24) hZ (hw _ (List.mem_of_getElem? (i := 23) rfl)) (hw _ (List.mem_of_getElem? (i := 10) rfl)) (by decide) (by decide)) q26a q26c (g := (mkF m 82 #[.val (.int p1), .val (.int p2), .val (.ref b1), .val (.ref b19), .unset, .unset, .unset, .unset, .unset, .unset] [(.ref b19)])) rfl (by rw [hml]; rfl) (Steps.refl _) (argsL := []) (rest := []) (lenOf pd_3 rfl) rfl (by show 2 * 0 + _ ≤ _; exact Nat.le_of_eq rfl) (hb hby at_82) (fun _ _ => ⟨rfl, rfl, (by decide : 3 + 0 ≤ _), (by decide : 14 + 0 ≤ _)⟩)
          dsimp only [Pt.U, Pt.locs, Pt.cells, Pt.slots] at X26 l26 y26 z26 st26 hQ26
          subst l26 y26 z26
          obtain ⟨rfl, N26q, K26, Ec26, Fz26, Fl26, Vc26⟩ := hQ26
          have N26 := Fr.app N24 N26q
          have Z27 : n0 ≤ T26.heap.size := Nat.le_trans Z25 K26.1
          obtain ⟨cq28, kq28, q28a, q28b, q28c⟩ := isOf hZ rfl Ec26
          obtain ⟨_, _, ⟨T28, L28, k28, n28⟩, -, X28, ⟨Lc28, hQ28, l28, y28, z28⟩, st28⟩ := X26.virtualBack hx (y := (⟨"com/example/etape/etape/chart/EnclosureForest", "add", "()V"⟩ : MethodName)) (z := (⟨"com/example/etape/etape/chart/EnclosureForest", "add", "()V"⟩ : MethodName)) hown (mvT hZ (hw _ (List.mem_of_getElem? (i := 19) rfl))) (mvT hZ (hw _ (List.mem_of_getElem? (i := 20) rfl))) (notFace_of_selects (args := #[]) (mvT hZ (hw _ (List.mem_of_getElem? (i := 22) rfl)))) (mvT hZ (hw _ (List.mem_of_getElem? (i := 22) rfl))) (mvT hZ (hw _ (List.mem_of_getElem? (i := 21) rfl))) (by decide) (backOf (W := 0) (rm5_2 l Z a0 hw [] b19 c22 kc22 (0 : Int32) (1 : Int32) (0 : Int32) (0 : Int32) (0 : Int32) (0 : Int32) (0 : Int32) (0 : Int32) T26.heap n0 Z27 Ec26 g_b19 gc22 nec22 Fz26 Fl26 Vc26) hZ (hw _ (List.mem_of_getElem? (i := 23) rfl)) (hw _ (List.mem_of_getElem? (i := 10) rfl)) (by decide) (by decide)) q28a q28c (g := (mkF m 86 #[.val (.int p1), .val (.int p2), .val (.ref b1), .val (.ref b19), .unset, .unset, .unset, .unset, .unset, .unset] [(.ref b19)])) rfl (by rw [hml]; rfl) (Steps.refl _) (argsL := []) (rest := []) (lenOf pd_3 rfl) rfl (by show 2 * 0 + _ ≤ _; exact Nat.le_of_eq rfl) (hb hby at_86) (fun _ _ => ⟨rfl, rfl, (by decide : 3 + 0 ≤ _), (by decide : 14 + 0 ≤ _)⟩)
          dsimp only [Pt.U, Pt.locs, Pt.cells, Pt.slots] at X28 l28 y28 z28 st28 hQ28
          subst l28 y28 z28
          obtain ⟨rfl, N28q, K28, Ec28, Fz28, Fl28, Vc28⟩ := hQ28
          have N28 := Fr.app N26 N28q
          have Z29 : n0 ≤ T28.heap.size := Nat.le_trans Z27 K28.1
          obtain ⟨cq30, kq30, q30a, q30b, q30c⟩ := isOf hZ rfl Ec28
          obtain ⟨_, _, ⟨T30, L30, k30, n30⟩, -, X30, ⟨Lc30, hQ30, l30, y30, z30⟩, st30⟩ := X28.virtualBack hx (y := (⟨"com/example/etape/etape/chart/EnclosureForest", "add", "()V"⟩ : MethodName)) (z := (⟨"com/example/etape/etape/chart/EnclosureForest", "add", "()V"⟩ : MethodName)) hown (mvT hZ (hw _ (List.mem_of_getElem? (i := 19) rfl))) (mvT hZ (hw _ (List.mem_of_getElem? (i := 20) rfl))) (notFace_of_selects (args := #[]) (mvT hZ (hw _ (List.mem_of_getElem? (i := 22) rfl)))) (mvT hZ (hw _ (List.mem_of_getElem? (i := 22) rfl))) (mvT hZ (hw _ (List.mem_of_getElem? (i := 21) rfl))) (by decide) (backOf (W := 0) (rm5_3 l Z a0 hw [] b19 c22 kc22 (0 : Int32) (1 : Int32) (2 : Int32) (0 : Int32) (0 : Int32) (0 : Int32) (0 : Int32) (0 : Int32) T28.heap n0 Z29 Ec28 g_b19 gc22 nec22 Fz28 Fl28 Vc28) hZ (hw _ (List.mem_of_getElem? (i := 23) rfl)) (hw _ (List.mem_of_getElem? (i := 10) rfl)) (by decide) (by decide)) q30a q30c (g := (mkF m 90 #[.val (.int p1), .val (.int p2), .val (.ref b1), .val (.ref b19), .unset, .unset, .unset, .unset, .unset, .unset] [(.ref b19)])) rfl (by rw [hml]; rfl) (Steps.refl _) (argsL := []) (rest := []) (lenOf pd_3 rfl) rfl (by show 2 * 0 + _ ≤ _; exact Nat.le_of_eq rfl) (hb hby at_90) (fun _ _ => ⟨rfl, rfl, (by decide : 3 + 0 ≤ _), (by decide : 14 + 0 ≤ _)⟩)
          dsimp only [Pt.U, Pt.locs, Pt.cells, Pt.slots] at X30 l30 y30 z30 st30 hQ30
          subst l30 y30 z30
          obtain ⟨rfl, N30q, K30, Ec30, Fz30, Fl30, Vc30⟩ := hQ30
          have N30 := Fr.app N28 N30q
          have Z31 : n0 ≤ T30.heap.size := Nat.le_trans Z29 K30.1
          have f33 := f21.keep K22 (ninS ne_b1_b19 nin0)
          have f34 := f33.keep K24 (ninS ne_b1_b19 (ninS nebp nin0))
          have f35 := f34.keep K26 (ninS ne_b1_b19 (ninS nebp nin0))
          have f36 := f35.keep K28 (ninS ne_b1_b19 (ninS nebp nin0))
          have f37 := f36.keep K30 (ninS ne_b1_b19 (ninS nebp nin0))
          obtain ⟨T32, L32, h32, X32, N32, e32, Zz32, K32, Ec32, Fl32, Vp32, Vc32, st32⟩ := own_en0 p1 p2 b1 b19 c22 k1 kc22 g0 g1 g2 g3 (1 : Int32) (2 : Int32) (3 : Int32) (0 : Int32) (0 : Int32) (0 : Int32) (0 : Int32) X30 hx hZ hw hby hml hown rfl Z31 N30 Ec30 Fl30 f37 Vc30 nec22 nebp gc22
          obtain ⟨T38, L38, h38, X38, N38, e38, Zz38, K38, Ec38, Fl38, Vp38, Vc38, st38⟩ := own_en1 p1 p2 b1 b19 c22 k1 kc22 g0 g1 g2 g3 (Int32.ofNat g0) (2 : Int32) (3 : Int32) (0 : Int32) (0 : Int32) (0 : Int32) (0 : Int32) X32 hx hZ hw hby hml hown e32 Zz32 N32 Ec32 Fl32 Vp32 Vc32 nec22 nebp gc22
          obtain ⟨T39, L39, h39, X39, N39, e39, Zz39, K39, Ec39, Fl39, Vp39, Vc39, st39⟩ := own_en2 p1 p2 b1 b19 c22 k1 kc22 g0 g1 g2 g3 (Int32.ofNat g0) (Int32.ofNat g1) (3 : Int32) (0 : Int32) (0 : Int32) (0 : Int32) (0 : Int32) X38 hx hZ hw hby hml hown e38 Zz38 N38 Ec38 Fl38 Vp38 Vc38 nec22 nebp gc22
          obtain ⟨T40, L40, h40, X40, N40, e40, Zz40, K40, Ec40, Fl40, Vp40, Vc40, st40⟩ := own_en3 p1 p2 b1 b19 c22 k1 kc22 g0 g1 g2 g3 (Int32.ofNat g0) (Int32.ofNat g1) (Int32.ofNat g2) (0 : Int32) (0 : Int32) (0 : Int32) (0 : Int32) X39 hx hZ hw hby hml hown e39 Zz39 N39 Ec39 Fl39 Vp39 Vc39 nec22 nebp gc22
          obtain ⟨cq41, kq41, q41a, q41b, q41c⟩ := isOf hZ e40 Ec40
          obtain ⟨_, _, ⟨T41, L41, k41, n41⟩, -, X41, ⟨Lc41, hQ41, l41, y41, z41⟩, st41⟩ := X40.virtualBack hx (y := (⟨"com/example/etape/etape/chart/EnclosureForest", "outermost", "(I)I"⟩ : MethodName)) (z := (⟨"com/example/etape/etape/chart/EnclosureForest", "outermost", "(I)I"⟩ : MethodName)) hown (mvT hZ (hw _ (List.mem_of_getElem? (i := 31) rfl))) (mvT hZ (hw _ (List.mem_of_getElem? (i := 32) rfl))) (notFace_of_selects (args := #[]) (mvT hZ (hw _ (List.mem_of_getElem? (i := 34) rfl)))) (mvT hZ (hw _ (List.mem_of_getElem? (i := 34) rfl))) (mvT hZ (hw _ (List.mem_of_getElem? (i := 33) rfl))) (by decide) (backOf (W := 0) (rm7 l Z a0 hw [] b19 c22 kc22 x0 g0 g1 g2 g3 h40 n0 Zz40 hx0 hi0 Ec40 Fl40 Vc40 nec22 gc22) hZ (hw _ (List.mem_of_getElem? (i := 35) rfl)) (hw _ (List.mem_of_getElem? (i := 10) rfl)) (by decide) (by decide)) q41a q41c (g := (mkF m 174 #[.val (.int p1), .val (.int p2), .val (.ref b1), .val (.ref b19), .val (.int (Int32.ofNat x0)), .val (.int (Int32.ofNat x1)), .val (.int (Int32.ofNat x2)), .unset, .unset, .unset] [(.int (Int32.ofNat x0)), (.ref b19)])) rfl (by rw [hml]; rfl) (Steps.refl _) (argsL := [(.int (Int32.ofNat x0))]) (rest := []) (lenOf pd_4 rfl) rfl (by show 2 * 0 + _ ≤ _; exact Nat.le_of_eq rfl) (hb hby at_174) (fun _ _ => ⟨rfl, e40, (by decide : 3 + 0 ≤ _), (by decide : 14 + 0 ≤ _)⟩)
          dsimp only [Pt.U, Pt.locs, Pt.cells, Pt.slots] at X41 l41 y41 z41 st41 hQ41
          subst l41 y41 z41
          obtain ⟨m0_41, m1_41, m2_41, m3_41, rfl, N41q, K41, hi41, hc41, Ec41, Fl41, Vc41⟩ := hQ41
          have N41 := Fr.app N40 N41q
          have Z42 : n0 ≤ T41.heap.size := Nat.le_trans Zz40 K41.1
          obtain ⟨cq43, kq43, q43a, q43b, q43c⟩ := isOf hZ rfl Ec41
          obtain ⟨_, _, ⟨T43, L43, k43, n43⟩, -, X43, ⟨Lc43, hQ43, l43, y43, z43⟩, st43⟩ := X41.virtualBack hx (y := (⟨"com/example/etape/etape/chart/EnclosureForest", "outermost", "(I)I"⟩ : MethodName)) (z := (⟨"com/example/etape/etape/chart/EnclosureForest", "outermost", "(I)I"⟩ : MethodName)) hown (mvT hZ (hw _ (List.mem_of_getElem? (i := 31) rfl))) (mvT hZ (hw _ (List.mem_of_getElem? (i := 32) rfl))) (notFace_of_selects (args := #[]) (mvT hZ (hw _ (List.mem_of_getElem? (i := 34) rfl)))) (mvT hZ (hw _ (List.mem_of_getElem? (i := 34) rfl))) (mvT hZ (hw _ (List.mem_of_getElem? (i := 33) rfl))) (by decide) (backOf (W := 0) (rm7 l Z a0 hw [] b19 c22 kc22 x1 m0_41 m1_41 m2_41 m3_41 T41.heap n0 Z42 hx1 hi41 Ec41 Fl41 Vc41 nec22 gc22) hZ (hw _ (List.mem_of_getElem? (i := 35) rfl)) (hw _ (List.mem_of_getElem? (i := 10) rfl)) (by decide) (by decide)) q43a q43c (g := (mkF m 182 #[.val (.int p1), .val (.int p2), .val (.ref b1), .val (.ref b19), .val (.int (Int32.ofNat x0)), .val (.int (Int32.ofNat x1)), .val (.int (Int32.ofNat x2)), .val (.int (Int32.ofNat (own_c3 (own_sel g0 g1 g2 g3) x0))), .unset, .unset] [(.int (Int32.ofNat x1)), (.ref b19)])) rfl (by rw [hml]; rfl) (Steps.refl _) (argsL := [(.int (Int32.ofNat x1))]) (rest := []) (lenOf pd_4 rfl) rfl (by show 2 * 0 + _ ≤ _; exact Nat.le_of_eq rfl) (hb hby at_182) (fun _ _ => ⟨rfl, rfl, (by decide : 3 + 0 ≤ _), (by decide : 14 + 0 ≤ _)⟩)
          dsimp only [Pt.U, Pt.locs, Pt.cells, Pt.slots] at X43 l43 y43 z43 st43 hQ43
          subst l43 y43 z43
          obtain ⟨m0_43, m1_43, m2_43, m3_43, rfl, N43q, K43, hi43, hc43, Ec43, Fl43, Vc43⟩ := hQ43
          have N43 := Fr.app N41 N43q
          have Z44 : n0 ≤ T43.heap.size := Nat.le_trans Z42 K43.1
          obtain ⟨cq45, kq45, q45a, q45b, q45c⟩ := isOf hZ rfl Ec43
          obtain ⟨_, _, ⟨T45, L45, k45, n45⟩, -, X45, ⟨Lc45, hQ45, l45, y45, z45⟩, st45⟩ := X43.virtualBack hx (y := (⟨"com/example/etape/etape/chart/EnclosureForest", "outermost", "(I)I"⟩ : MethodName)) (z := (⟨"com/example/etape/etape/chart/EnclosureForest", "outermost", "(I)I"⟩ : MethodName)) hown (mvT hZ (hw _ (List.mem_of_getElem? (i := 31) rfl))) (mvT hZ (hw _ (List.mem_of_getElem? (i := 32) rfl))) (notFace_of_selects (args := #[]) (mvT hZ (hw _ (List.mem_of_getElem? (i := 34) rfl)))) (mvT hZ (hw _ (List.mem_of_getElem? (i := 34) rfl))) (mvT hZ (hw _ (List.mem_of_getElem? (i := 33) rfl))) (by decide) (backOf (W := 0) (rm7 l Z a0 hw [] b19 c22 kc22 x2 m0_43 m1_43 m2_43 m3_43 T43.heap n0 Z44 hx2 hi43 Ec43 Fl43 Vc43 nec22 gc22) hZ (hw _ (List.mem_of_getElem? (i := 35) rfl)) (hw _ (List.mem_of_getElem? (i := 10) rfl)) (by decide) (by decide)) q45a q45c (g := (mkF m 190 #[.val (.int p1), .val (.int p2), .val (.ref b1), .val (.ref b19), .val (.int (Int32.ofNat x0)), .val (.int (Int32.ofNat x1)), .val (.int (Int32.ofNat x2)), .val (.int (Int32.ofNat (own_c3 (own_sel g0 g1 g2 g3) x0))), .val (.int (Int32.ofNat (own_c3 (own_sel m0_41 m1_41 m2_41 m3_41) x1))), .unset] [(.int (Int32.ofNat x2)), (.ref b19)])) rfl (by rw [hml]; rfl) (Steps.refl _) (argsL := [(.int (Int32.ofNat x2))]) (rest := []) (lenOf pd_4 rfl) rfl (by show 2 * 0 + _ ≤ _; exact Nat.le_of_eq rfl) (hb hby at_190) (fun _ _ => ⟨rfl, rfl, (by decide : 3 + 0 ≤ _), (by decide : 14 + 0 ≤ _)⟩)
          dsimp only [Pt.U, Pt.locs, Pt.cells, Pt.slots] at X45 l45 y45 z45 st45 hQ45
          subst l45 y45 z45
          obtain ⟨m0_45, m1_45, m2_45, m3_45, rfl, N45q, K45, hi45, hc45, Ec45, Fl45, Vc45⟩ := hQ45
          have N45 := Fr.app N43 N45q
          have Z46 : n0 ≤ T45.heap.size := Nat.le_trans Z44 K45.1
          have f47 := Vp40.keep K41 (ninS nebp nin0)
          have f48 := f47.keep K43 (ninS nebp nin0)
          have f49 := f48.keep K45 (ninS nebp nin0)
          obtain ⟨_, _, ⟨T50, L50, k50, n50⟩, -, X50, ⟨Lc50, hQ50, l50, y50, z50⟩, st50⟩ := Jvm.LawKit.callS X45 hx (y := (⟨"com/example/etape/etape/chart/EnclosureForestOutermostPinLaw", "root", "([II)I"⟩ : MethodName)) hown (mvT hZ (hw _ (List.mem_of_getElem? (i := 5) rfl))) (mvT hZ (hw _ (List.mem_of_getElem? (i := 6) rfl))) (mvT hZ (hw _ (List.mem_of_getElem? (i := 3) rfl))) (mvT hZ (hw _ (List.mem_of_getElem? (i := 7) rfl))) (by decide) (backOf (W := 1) (rm2 l Z a0 hw [] b1 x0 g0 g1 g2 g3 k1 T45.heap n0 Z46 hx0 hG f49) hZ (hw _ (List.mem_of_getElem? (i := 7) rfl)) (hw _ (List.mem_of_getElem? (i := 3) rfl)) (by decide) (by decide)) (g := (mkF m 200 #[.val (.int p1), .val (.int p2), .val (.ref b1), .val (.ref b19), .val (.int (Int32.ofNat x0)), .val (.int (Int32.ofNat x1)), .val (.int (Int32.ofNat x2)), .val (.int (Int32.ofNat (own_c3 (own_sel g0 g1 g2 g3) x0))), .val (.int (Int32.ofNat (own_c3 (own_sel m0_41 m1_41 m2_41 m3_41) x1))), .val (.int (Int32.ofNat (own_c3 (own_sel m0_43 m1_43 m2_43 m3_43) x2)))] [(.int (Int32.ofNat x0)), (.ref b1), (.int (Int32.ofNat (own_c3 (own_sel g0 g1 g2 g3) x0)))])) rfl (by rw [hml]; rfl) (argsL := [(.ref b1), (.int (Int32.ofNat x0))]) (rest := [(.int (Int32.ofNat (own_c3 (own_sel g0 g1 g2 g3) x0)))]) (lenOf pd_0 rfl) rfl (by show 2 * 0 + _ ≤ _; exact Nat.le_of_eq rfl) (hb hby at_200) (fun _ _ => ⟨rfl, rfl, (by decide : 3 + 0 ≤ _), (by decide : 14 + 0 ≤ _)⟩)
          dsimp only [Pt.U, Pt.locs, Pt.cells, Pt.slots] at X50 l50 y50 z50 st50 hQ50
          subst l50 y50 z50
          obtain ⟨rfl, N50q, e50⟩ := hQ50
          have N50 := Fr.app N45 N50q
          obtain ⟨_, _, ⟨T51, L51, k51, n51⟩, -, X51, ⟨Lc51, hQ51, l51, y51, z51⟩, st51⟩ := Jvm.LawKit.callS X50 hx (y := (⟨"com/example/etape/etape/chart/EnclosureForestOutermostPinLaw", "root", "([II)I"⟩ : MethodName)) hown (mvT hZ (hw _ (List.mem_of_getElem? (i := 5) rfl))) (mvT hZ (hw _ (List.mem_of_getElem? (i := 6) rfl))) (mvT hZ (hw _ (List.mem_of_getElem? (i := 3) rfl))) (mvT hZ (hw _ (List.mem_of_getElem? (i := 7) rfl))) (by decide) (backOf (W := 1) (rm2 l Z a0 hw [] b1 x1 g0 g1 g2 g3 k1 T45.heap n0 Z46 hx1 hG f49) hZ (hw _ (List.mem_of_getElem? (i := 7) rfl)) (hw _ (List.mem_of_getElem? (i := 3) rfl)) (by decide) (by decide)) (g := (mkF m 211 #[.val (.int p1), .val (.int p2), .val (.ref b1), .val (.ref b19), .val (.int (Int32.ofNat x0)), .val (.int (Int32.ofNat x1)), .val (.int (Int32.ofNat x2)), .val (.int (Int32.ofNat (own_c3 (own_sel g0 g1 g2 g3) x0))), .val (.int (Int32.ofNat (own_c3 (own_sel m0_41 m1_41 m2_41 m3_41) x1))), .val (.int (Int32.ofNat (own_c3 (own_sel m0_43 m1_43 m2_43 m3_43) x2)))] [(.int (Int32.ofNat x1)), (.ref b1), (.int (Int32.ofNat (own_c3 (own_sel m0_41 m1_41 m2_41 m3_41) x1)))])) rfl (by rw [hml]; rfl) (argsL := [(.ref b1), (.int (Int32.ofNat x1))]) (rest := [(.int (Int32.ofNat (own_c3 (own_sel m0_41 m1_41 m2_41 m3_41) x1)))]) (lenOf pd_0 rfl) rfl (by show 2 * 0 + _ ≤ _; exact Nat.le_of_eq rfl) (hb hby at_211) (fun _ _ => ⟨rfl, e50, (by decide : 3 + 0 ≤ _), (by decide : 14 + 0 ≤ _)⟩)
          dsimp only [Pt.U, Pt.locs, Pt.cells, Pt.slots] at X51 l51 y51 z51 st51 hQ51
          subst l51 y51 z51
          obtain ⟨rfl, N51q, e51⟩ := hQ51
          have N51 := Fr.app N50 N51q
          obtain ⟨_, _, ⟨T52, L52, k52, n52⟩, -, X52, ⟨Lc52, hQ52, l52, y52, z52⟩, st52⟩ := Jvm.LawKit.callS X51 hx (y := (⟨"com/example/etape/etape/chart/EnclosureForestOutermostPinLaw", "root", "([II)I"⟩ : MethodName)) hown (mvT hZ (hw _ (List.mem_of_getElem? (i := 5) rfl))) (mvT hZ (hw _ (List.mem_of_getElem? (i := 6) rfl))) (mvT hZ (hw _ (List.mem_of_getElem? (i := 3) rfl))) (mvT hZ (hw _ (List.mem_of_getElem? (i := 7) rfl))) (by decide) (backOf (W := 1) (rm2 l Z a0 hw [] b1 x2 g0 g1 g2 g3 k1 T45.heap n0 Z46 hx2 hG f49) hZ (hw _ (List.mem_of_getElem? (i := 7) rfl)) (hw _ (List.mem_of_getElem? (i := 3) rfl)) (by decide) (by decide)) (g := (mkF m 222 #[.val (.int p1), .val (.int p2), .val (.ref b1), .val (.ref b19), .val (.int (Int32.ofNat x0)), .val (.int (Int32.ofNat x1)), .val (.int (Int32.ofNat x2)), .val (.int (Int32.ofNat (own_c3 (own_sel g0 g1 g2 g3) x0))), .val (.int (Int32.ofNat (own_c3 (own_sel m0_41 m1_41 m2_41 m3_41) x1))), .val (.int (Int32.ofNat (own_c3 (own_sel m0_43 m1_43 m2_43 m3_43) x2)))] [(.int (Int32.ofNat x2)), (.ref b1), (.int (Int32.ofNat (own_c3 (own_sel m0_43 m1_43 m2_43 m3_43) x2)))])) rfl (by rw [hml]; rfl) (argsL := [(.ref b1), (.int (Int32.ofNat x2))]) (rest := [(.int (Int32.ofNat (own_c3 (own_sel m0_43 m1_43 m2_43 m3_43) x2)))]) (lenOf pd_0 rfl) rfl (by show 2 * 0 + _ ≤ _; exact Nat.le_of_eq rfl) (hb hby at_222) (fun _ _ => ⟨rfl, e51, (by decide : 3 + 0 ≤ _), (by decide : 14 + 0 ≤ _)⟩)
          dsimp only [Pt.U, Pt.locs, Pt.cells, Pt.slots] at X52 l52 y52 z52 st52 hQ52
          subst l52 y52 z52
          obtain ⟨rfl, N52q, e52⟩ := hQ52
          have N52 := Fr.app N51 N52q
          obtain ⟨fs, hr, hrun, hended, hW, hsame⟩ := X52.leave (v := some (.int (1 : Int32))) (fun h => by rw [Bd.returns] at h; cases h)
          refine ⟨_, _, pre0 _ ?_, hrun, hended, _, _, rfl, ?_, ⟨_, rfl⟩, hW, hsame.mono (by decide) (by decide)⟩
          · show Steps p.tables e below (s₁.setTop (mkF m 0 #[.val (.int p1), .val (.int p2), .unset, .unset, .unset, .unset, .unset, .unset, .unset, .unset] [])) _
            refine XS.iconst X0.here hx rfl (hb hby at_0) ?_
            show Steps p.tables e below (s₁.setTop (mkF m 1 #[.val (.int p1), .val (.int p2), .unset, .unset, .unset, .unset, .unset, .unset, .unset, .unset] [(.int (4 : Int32))])) _
            refine st1 _ ?_
            show Steps p.tables e below (T1.setTop (mkF m 3 #[.val (.int p1), .val (.int p2), .unset, .unset, .unset, .unset, .unset, .unset, .unset, .unset] [(.ref b1)])) _
            refine XS.astoreN X1.here hx rfl (hb hby at_3) rfl rfl (l' := #[.val (.int p1), .val (.int p2), .val (.ref b1), .unset, .unset, .unset, .unset, .unset, .unset, .unset]) rfl ?_
            show Steps p.tables e below (T1.setTop (mkF m 4 #[.val (.int p1), .val (.int p2), .val (.ref b1), .unset, .unset, .unset, .unset, .unset, .unset, .unset] [])) _
            refine XS.aloadN X1.here hx rfl (hb hby at_4) rfl rfl ?_
            show Steps p.tables e below (T1.setTop (mkF m 5 #[.val (.int p1), .val (.int p2), .val (.ref b1), .unset, .unset, .unset, .unset, .unset, .unset, .unset] [(.ref b1)])) _
            refine XS.iconst X1.here hx rfl (hb hby at_5) ?_
            show Steps p.tables e below (T1.setTop (mkF m 6 #[.val (.int p1), .val (.int p2), .val (.ref b1), .unset, .unset, .unset, .unset, .unset, .unset, .unset] [(.int (0 : Int32)), (.ref b1)])) _
            refine XS.iloadN X1.here hx rfl (hb hby at_6) rfl ?_
            show Steps p.tables e below (T1.setTop (mkF m 7 #[.val (.int p1), .val (.int p2), .val (.ref b1), .unset, .unset, .unset, .unset, .unset, .unset, .unset] [(.int p1), (.int (0 : Int32)), (.ref b1)])) _
            refine XS.iconst X1.here hx rfl (hb hby at_7) ?_
            show Steps p.tables e below (T1.setTop (mkF m 8 #[.val (.int p1), .val (.int p2), .val (.ref b1), .unset, .unset, .unset, .unset, .unset, .unset, .unset] [(.int (3 : Int32)), (.int p1), (.int (0 : Int32)), (.ref b1)])) _
            refine XS.iand X1.here hx rfl (hb hby at_8) rfl ?_
            show Steps p.tables e below (T1.setTop (mkF m 9 #[.val (.int p1), .val (.int p2), .val (.ref b1), .unset, .unset, .unset, .unset, .unset, .unset, .unset] [(.int (p1 &&& (3 : Int32))), (.int (0 : Int32)), (.ref b1)])) _
            rw [eg0]
            show Steps p.tables e below (T1.setTop (mkF m 9 #[.val (.int p1), .val (.int p2), .val (.ref b1), .unset, .unset, .unset, .unset, .unset, .unset, .unset] [(.int (Int32.ofNat g0)), (.int (0 : Int32)), (.ref b1)])) _
            refine st4 _ ?_
            show Steps p.tables e below (T4.setTop (mkF m 10 #[.val (.int p1), .val (.int p2), .val (.ref b1), .unset, .unset, .unset, .unset, .unset, .unset, .unset] [])) _
            refine XS.aloadN X4.here hx rfl (hb hby at_10) rfl rfl ?_
            show Steps p.tables e below (T4.setTop (mkF m 11 #[.val (.int p1), .val (.int p2), .val (.ref b1), .unset, .unset, .unset, .unset, .unset, .unset, .unset] [(.ref b1)])) _
            refine XS.iconst X4.here hx rfl (hb hby at_11) ?_
            show Steps p.tables e below (T4.setTop (mkF m 12 #[.val (.int p1), .val (.int p2), .val (.ref b1), .unset, .unset, .unset, .unset, .unset, .unset, .unset] [(.int (1 : Int32)), (.ref b1)])) _
            refine XS.iloadN X4.here hx rfl (hb hby at_12) rfl ?_
            show Steps p.tables e below (T4.setTop (mkF m 13 #[.val (.int p1), .val (.int p2), .val (.ref b1), .unset, .unset, .unset, .unset, .unset, .unset, .unset] [(.int p1), (.int (1 : Int32)), (.ref b1)])) _
            refine XS.iconst X4.here hx rfl (hb hby at_13) ?_
            show Steps p.tables e below (T4.setTop (mkF m 14 #[.val (.int p1), .val (.int p2), .val (.ref b1), .unset, .unset, .unset, .unset, .unset, .unset, .unset] [(.int (2 : Int32)), (.int p1), (.int (1 : Int32)), (.ref b1)])) _
            refine XS.iushr X4.here hx rfl (hb hby at_14) rfl ?_
            show Steps p.tables e below (T4.setTop (mkF m 15 #[.val (.int p1), .val (.int p2), .val (.ref b1), .unset, .unset, .unset, .unset, .unset, .unset, .unset] [(.int (own_sh (2 : Int32) p1)), (.int (1 : Int32)), (.ref b1)])) _
            refine XS.iconst X4.here hx rfl (hb hby at_15) ?_
            show Steps p.tables e below (T4.setTop (mkF m 16 #[.val (.int p1), .val (.int p2), .val (.ref b1), .unset, .unset, .unset, .unset, .unset, .unset, .unset] [(.int (3 : Int32)), (.int (own_sh (2 : Int32) p1)), (.int (1 : Int32)), (.ref b1)])) _
            refine XS.iand X4.here hx rfl (hb hby at_16) rfl ?_
            show Steps p.tables e below (T4.setTop (mkF m 17 #[.val (.int p1), .val (.int p2), .val (.ref b1), .unset, .unset, .unset, .unset, .unset, .unset, .unset] [(.int ((own_sh (2 : Int32) p1) &&& (3 : Int32))), (.int (1 : Int32)), (.ref b1)])) _
            rw [eg1]
            show Steps p.tables e below (T4.setTop (mkF m 17 #[.val (.int p1), .val (.int p2), .val (.ref b1), .unset, .unset, .unset, .unset, .unset, .unset, .unset] [(.int (Int32.ofNat g1)), (.int (1 : Int32)), (.ref b1)])) _
            refine st7 _ ?_
            show Steps p.tables e below (T7.setTop (mkF m 18 #[.val (.int p1), .val (.int p2), .val (.ref b1), .unset, .unset, .unset, .unset, .unset, .unset, .unset] [])) _
            refine XS.aloadN X7.here hx rfl (hb hby at_18) rfl rfl ?_
            show Steps p.tables e below (T7.setTop (mkF m 19 #[.val (.int p1), .val (.int p2), .val (.ref b1), .unset, .unset, .unset, .unset, .unset, .unset, .unset] [(.ref b1)])) _
            refine XS.iconst X7.here hx rfl (hb hby at_19) ?_
            show Steps p.tables e below (T7.setTop (mkF m 20 #[.val (.int p1), .val (.int p2), .val (.ref b1), .unset, .unset, .unset, .unset, .unset, .unset, .unset] [(.int (2 : Int32)), (.ref b1)])) _
            refine XS.iloadN X7.here hx rfl (hb hby at_20) rfl ?_
            show Steps p.tables e below (T7.setTop (mkF m 21 #[.val (.int p1), .val (.int p2), .val (.ref b1), .unset, .unset, .unset, .unset, .unset, .unset, .unset] [(.int p1), (.int (2 : Int32)), (.ref b1)])) _
            refine XS.iconst X7.here hx rfl (hb hby at_21) ?_
            show Steps p.tables e below (T7.setTop (mkF m 22 #[.val (.int p1), .val (.int p2), .val (.ref b1), .unset, .unset, .unset, .unset, .unset, .unset, .unset] [(.int (4 : Int32)), (.int p1), (.int (2 : Int32)), (.ref b1)])) _
            refine XS.iushr X7.here hx rfl (hb hby at_22) rfl ?_
            show Steps p.tables e below (T7.setTop (mkF m 23 #[.val (.int p1), .val (.int p2), .val (.ref b1), .unset, .unset, .unset, .unset, .unset, .unset, .unset] [(.int (own_sh (4 : Int32) p1)), (.int (2 : Int32)), (.ref b1)])) _
            refine XS.iconst X7.here hx rfl (hb hby at_23) ?_
            show Steps p.tables e below (T7.setTop (mkF m 24 #[.val (.int p1), .val (.int p2), .val (.ref b1), .unset, .unset, .unset, .unset, .unset, .unset, .unset] [(.int (3 : Int32)), (.int (own_sh (4 : Int32) p1)), (.int (2 : Int32)), (.ref b1)])) _
            refine XS.iand X7.here hx rfl (hb hby at_24) rfl ?_
            show Steps p.tables e below (T7.setTop (mkF m 25 #[.val (.int p1), .val (.int p2), .val (.ref b1), .unset, .unset, .unset, .unset, .unset, .unset, .unset] [(.int ((own_sh (4 : Int32) p1) &&& (3 : Int32))), (.int (2 : Int32)), (.ref b1)])) _
            rw [eg2]
            show Steps p.tables e below (T7.setTop (mkF m 25 #[.val (.int p1), .val (.int p2), .val (.ref b1), .unset, .unset, .unset, .unset, .unset, .unset, .unset] [(.int (Int32.ofNat g2)), (.int (2 : Int32)), (.ref b1)])) _
            refine st10 _ ?_
            show Steps p.tables e below (T10.setTop (mkF m 26 #[.val (.int p1), .val (.int p2), .val (.ref b1), .unset, .unset, .unset, .unset, .unset, .unset, .unset] [])) _
            refine XS.aloadN X10.here hx rfl (hb hby at_26) rfl rfl ?_
            show Steps p.tables e below (T10.setTop (mkF m 27 #[.val (.int p1), .val (.int p2), .val (.ref b1), .unset, .unset, .unset, .unset, .unset, .unset, .unset] [(.ref b1)])) _
            refine XS.iconst X10.here hx rfl (hb hby at_27) ?_
            show Steps p.tables e below (T10.setTop (mkF m 28 #[.val (.int p1), .val (.int p2), .val (.ref b1), .unset, .unset, .unset, .unset, .unset, .unset, .unset] [(.int (3 : Int32)), (.ref b1)])) _
            refine XS.iloadN X10.here hx rfl (hb hby at_28) rfl ?_
            show Steps p.tables e below (T10.setTop (mkF m 29 #[.val (.int p1), .val (.int p2), .val (.ref b1), .unset, .unset, .unset, .unset, .unset, .unset, .unset] [(.int p1), (.int (3 : Int32)), (.ref b1)])) _
            refine XS.bipush X10.here hx rfl (hb hby at_29) ?_
            show Steps p.tables e below (T10.setTop (mkF m 31 #[.val (.int p1), .val (.int p2), .val (.ref b1), .unset, .unset, .unset, .unset, .unset, .unset, .unset] [(.int (6 : Int32)), (.int p1), (.int (3 : Int32)), (.ref b1)])) _
            refine XS.iushr X10.here hx rfl (hb hby at_31) rfl ?_
            show Steps p.tables e below (T10.setTop (mkF m 32 #[.val (.int p1), .val (.int p2), .val (.ref b1), .unset, .unset, .unset, .unset, .unset, .unset, .unset] [(.int (own_sh (6 : Int32) p1)), (.int (3 : Int32)), (.ref b1)])) _
            refine XS.iconst X10.here hx rfl (hb hby at_32) ?_
            show Steps p.tables e below (T10.setTop (mkF m 33 #[.val (.int p1), .val (.int p2), .val (.ref b1), .unset, .unset, .unset, .unset, .unset, .unset, .unset] [(.int (3 : Int32)), (.int (own_sh (6 : Int32) p1)), (.int (3 : Int32)), (.ref b1)])) _
            refine XS.iand X10.here hx rfl (hb hby at_33) rfl ?_
            show Steps p.tables e below (T10.setTop (mkF m 34 #[.val (.int p1), .val (.int p2), .val (.ref b1), .unset, .unset, .unset, .unset, .unset, .unset, .unset] [(.int ((own_sh (6 : Int32) p1) &&& (3 : Int32))), (.int (3 : Int32)), (.ref b1)])) _
            rw [eg3]
            show Steps p.tables e below (T10.setTop (mkF m 34 #[.val (.int p1), .val (.int p2), .val (.ref b1), .unset, .unset, .unset, .unset, .unset, .unset, .unset] [(.int (Int32.ofNat g3)), (.int (3 : Int32)), (.ref b1)])) _
            refine st13 _ ?_
            show Steps p.tables e below (T13.setTop (mkF m 35 #[.val (.int p1), .val (.int p2), .val (.ref b1), .unset, .unset, .unset, .unset, .unset, .unset, .unset] [])) _
            refine XS.aloadN X13.here hx rfl (hb hby at_35) rfl rfl ?_
            show Steps p.tables e below (T13.setTop (mkF m 36 #[.val (.int p1), .val (.int p2), .val (.ref b1), .unset, .unset, .unset, .unset, .unset, .unset, .unset] [(.ref b1)])) _
            refine XS.iconst X13.here hx rfl (hb hby at_36) ?_
            show Steps p.tables e below (T13.setTop (mkF m 37 #[.val (.int p1), .val (.int p2), .val (.ref b1), .unset, .unset, .unset, .unset, .unset, .unset, .unset] [(.int (0 : Int32)), (.ref b1)])) _
            refine st15 _ ?_
            show Steps p.tables e below (T15.setTop (mkF m 40 #[.val (.int p1), .val (.int p2), .val (.ref b1), .unset, .unset, .unset, .unset, .unset, .unset, .unset] [(.int (own_isr g0 g1 g2 g3 0))])) _
            refine XS.ifNo X15.here hx rfl (hb hby at_40) rfl ((if0 _ _).trans (feq (ht0 : ¬ ((own_isr g0 g1 g2 g3 0) = (0 : Int32)))).1) ?_
            show Steps p.tables e below (T15.setTop (mkF m 43 #[.val (.int p1), .val (.int p2), .val (.ref b1), .unset, .unset, .unset, .unset, .unset, .unset, .unset] [])) _
            refine XS.aloadN X15.here hx rfl (hb hby at_43) rfl rfl ?_
            show Steps p.tables e below (T15.setTop (mkF m 44 #[.val (.int p1), .val (.int p2), .val (.ref b1), .unset, .unset, .unset, .unset, .unset, .unset, .unset] [(.ref b1)])) _
            refine XS.iconst X15.here hx rfl (hb hby at_44) ?_
            show Steps p.tables e below (T15.setTop (mkF m 45 #[.val (.int p1), .val (.int p2), .val (.ref b1), .unset, .unset, .unset, .unset, .unset, .unset, .unset] [(.int (1 : Int32)), (.ref b1)])) _
            refine st16 _ ?_
            show Steps p.tables e below (T16.setTop (mkF m 48 #[.val (.int p1), .val (.int p2), .val (.ref b1), .unset, .unset, .unset, .unset, .unset, .unset, .unset] [(.int (own_isr g0 g1 g2 g3 1))])) _
            refine XS.ifNo X16.here hx rfl (hb hby at_48) rfl ((if0 _ _).trans (feq (ht1 : ¬ ((own_isr g0 g1 g2 g3 1) = (0 : Int32)))).1) ?_
            show Steps p.tables e below (T16.setTop (mkF m 51 #[.val (.int p1), .val (.int p2), .val (.ref b1), .unset, .unset, .unset, .unset, .unset, .unset, .unset] [])) _
            refine XS.aloadN X16.here hx rfl (hb hby at_51) rfl rfl ?_
            show Steps p.tables e below (T16.setTop (mkF m 52 #[.val (.int p1), .val (.int p2), .val (.ref b1), .unset, .unset, .unset, .unset, .unset, .unset, .unset] [(.ref b1)])) _
            refine XS.iconst X16.here hx rfl (hb hby at_52) ?_
            show Steps p.tables e below (T16.setTop (mkF m 53 #[.val (.int p1), .val (.int p2), .val (.ref b1), .unset, .unset, .unset, .unset, .unset, .unset, .unset] [(.int (2 : Int32)), (.ref b1)])) _
            refine st17 _ ?_
            show Steps p.tables e below (T17.setTop (mkF m 56 #[.val (.int p1), .val (.int p2), .val (.ref b1), .unset, .unset, .unset, .unset, .unset, .unset, .unset] [(.int (own_isr g0 g1 g2 g3 2))])) _
            refine XS.ifNo X17.here hx rfl (hb hby at_56) rfl ((if0 _ _).trans (feq (ht2 : ¬ ((own_isr g0 g1 g2 g3 2) = (0 : Int32)))).1) ?_
            show Steps p.tables e below (T17.setTop (mkF m 59 #[.val (.int p1), .val (.int p2), .val (.ref b1), .unset, .unset, .unset, .unset, .unset, .unset, .unset] [])) _
            refine XS.aloadN X17.here hx rfl (hb hby at_59) rfl rfl ?_
            show Steps p.tables e below (T17.setTop (mkF m 60 #[.val (.int p1), .val (.int p2), .val (.ref b1), .unset, .unset, .unset, .unset, .unset, .unset, .unset] [(.ref b1)])) _
            refine XS.iconst X17.here hx rfl (hb hby at_60) ?_
            show Steps p.tables e below (T17.setTop (mkF m 61 #[.val (.int p1), .val (.int p2), .val (.ref b1), .unset, .unset, .unset, .unset, .unset, .unset, .unset] [(.int (3 : Int32)), (.ref b1)])) _
            refine st18 _ ?_
            show Steps p.tables e below (T18.setTop (mkF m 64 #[.val (.int p1), .val (.int p2), .val (.ref b1), .unset, .unset, .unset, .unset, .unset, .unset, .unset] [(.int (own_isr g0 g1 g2 g3 3))])) _
            refine XS.ifYes X18.here hx rfl (pc0 := 64) (pc' := 69) rfl (hb hby at_64) rfl ((if0 _ _).trans (feq (ht3 : ¬ ((own_isr g0 g1 g2 g3 3) = (0 : Int32)))).2) (by decide) (by decide) ?_
            show Steps p.tables e below (T18.setTop (mkF m 69 #[.val (.int p1), .val (.int p2), .val (.ref b1), .unset, .unset, .unset, .unset, .unset, .unset, .unset] [])) _
            refine st19 _ ?_
            show Steps p.tables e below (T19.setTop (mkF m 72 #[.val (.int p1), .val (.int p2), .val (.ref b1), .unset, .unset, .unset, .unset, .unset, .unset, .unset] [(.ref b19)])) _
            refine XS.dup X19.here hx rfl (hb hby at_72) rfl rfl ?_
            show Steps p.tables e below (T19.setTop (mkF m 73 #[.val (.int p1), .val (.int p2), .val (.ref b1), .unset, .unset, .unset, .unset, .unset, .unset, .unset] [(.ref b19), (.ref b19)])) _
            refine st22.trans ?_
            show Steps p.tables e below (T22.setTop (mkF m 76 #[.val (.int p1), .val (.int p2), .val (.ref b1), .unset, .unset, .unset, .unset, .unset, .unset, .unset] [(.ref b19)])) _
            refine XS.astoreN X22.here hx rfl (hb hby at_76) rfl rfl (l' := #[.val (.int p1), .val (.int p2), .val (.ref b1), .val (.ref b19), .unset, .unset, .unset, .unset, .unset, .unset]) rfl ?_
            show Steps p.tables e below (T22.setTop (mkF m 77 #[.val (.int p1), .val (.int p2), .val (.ref b1), .val (.ref b19), .unset, .unset, .unset, .unset, .unset, .unset] [])) _
            refine XS.aloadN X22.here hx rfl (hb hby at_77) rfl rfl ?_
            show Steps p.tables e below (T22.setTop (mkF m 78 #[.val (.int p1), .val (.int p2), .val (.ref b1), .val (.ref b19), .unset, .unset, .unset, .unset, .unset, .unset] [(.ref b19)])) _
            refine st24.trans ?_
            show Steps p.tables e below (T24.setTop (mkF m 81 #[.val (.int p1), .val (.int p2), .val (.ref b1), .val (.ref b19), .unset, .unset, .unset, .unset, .unset, .unset] [])) _
            refine XS.aloadN X24.here hx rfl (hb hby at_81) rfl rfl ?_
            show Steps p.tables e below (T24.setTop (mkF m 82 #[.val (.int p1), .val (.int p2), .val (.ref b1), .val (.ref b19), .unset, .unset, .unset, .unset, .unset, .unset] [(.ref b19)])) _
            refine st26.trans ?_
            show Steps p.tables e below (T26.setTop (mkF m 85 #[.val (.int p1), .val (.int p2), .val (.ref b1), .val (.ref b19), .unset, .unset, .unset, .unset, .unset, .unset] [])) _
            refine XS.aloadN X26.here hx rfl (hb hby at_85) rfl rfl ?_
            show Steps p.tables e below (T26.setTop (mkF m 86 #[.val (.int p1), .val (.int p2), .val (.ref b1), .val (.ref b19), .unset, .unset, .unset, .unset, .unset, .unset] [(.ref b19)])) _
            refine st28.trans ?_
            show Steps p.tables e below (T28.setTop (mkF m 89 #[.val (.int p1), .val (.int p2), .val (.ref b1), .val (.ref b19), .unset, .unset, .unset, .unset, .unset, .unset] [])) _
            refine XS.aloadN X28.here hx rfl (hb hby at_89) rfl rfl ?_
            show Steps p.tables e below (T28.setTop (mkF m 90 #[.val (.int p1), .val (.int p2), .val (.ref b1), .val (.ref b19), .unset, .unset, .unset, .unset, .unset, .unset] [(.ref b19)])) _
            refine st30.trans ?_
            show Steps p.tables e below (T30.setTop (mkF m 93 #[.val (.int p1), .val (.int p2), .val (.ref b1), .val (.ref b19), .unset, .unset, .unset, .unset, .unset, .unset] [])) _
            refine st32 _ ?_
            show Steps p.tables e below (T32.setTop (mkF m 107 #[.val (.int p1), .val (.int p2), .val (.ref b1), .val (.ref b19), .unset, .unset, .unset, .unset, .unset, .unset] [])) _
            refine st38 _ ?_
            show Steps p.tables e below (T38.setTop (mkF m 122 #[.val (.int p1), .val (.int p2), .val (.ref b1), .val (.ref b19), .unset, .unset, .unset, .unset, .unset, .unset] [])) _
            refine st39 _ ?_
            show Steps p.tables e below (T39.setTop (mkF m 137 #[.val (.int p1), .val (.int p2), .val (.ref b1), .val (.ref b19), .unset, .unset, .unset, .unset, .unset, .unset] [])) _
            refine st40 _ ?_
            show Steps p.tables e below (T40.setTop (mkF m 152 #[.val (.int p1), .val (.int p2), .val (.ref b1), .val (.ref b19), .unset, .unset, .unset, .unset, .unset, .unset] [])) _
            refine XS.iloadN X40.here hx rfl (hb hby at_152) rfl ?_
            show Steps p.tables e below (T40.setTop (mkF m 153 #[.val (.int p1), .val (.int p2), .val (.ref b1), .val (.ref b19), .unset, .unset, .unset, .unset, .unset, .unset] [(.int p2)])) _
            refine XS.iconst X40.here hx rfl (hb hby at_153) ?_
            show Steps p.tables e below (T40.setTop (mkF m 154 #[.val (.int p1), .val (.int p2), .val (.ref b1), .val (.ref b19), .unset, .unset, .unset, .unset, .unset, .unset] [(.int (3 : Int32)), (.int p2)])) _
            refine XS.iand X40.here hx rfl (hb hby at_154) rfl ?_
            show Steps p.tables e below (T40.setTop (mkF m 155 #[.val (.int p1), .val (.int p2), .val (.ref b1), .val (.ref b19), .unset, .unset, .unset, .unset, .unset, .unset] [(.int (p2 &&& (3 : Int32)))])) _
            rw [ex0]
            show Steps p.tables e below (T40.setTop (mkF m 155 #[.val (.int p1), .val (.int p2), .val (.ref b1), .val (.ref b19), .unset, .unset, .unset, .unset, .unset, .unset] [(.int (Int32.ofNat x0))])) _
            refine XS.istore X40.here hx rfl (hb hby at_155) rfl (l' := #[.val (.int p1), .val (.int p2), .val (.ref b1), .val (.ref b19), .val (.int (Int32.ofNat x0)), .unset, .unset, .unset, .unset, .unset]) rfl ?_
            show Steps p.tables e below (T40.setTop (mkF m 157 #[.val (.int p1), .val (.int p2), .val (.ref b1), .val (.ref b19), .val (.int (Int32.ofNat x0)), .unset, .unset, .unset, .unset, .unset] [])) _
            refine XS.iloadN X40.here hx rfl (hb hby at_157) rfl ?_
            show Steps p.tables e below (T40.setTop (mkF m 158 #[.val (.int p1), .val (.int p2), .val (.ref b1), .val (.ref b19), .val (.int (Int32.ofNat x0)), .unset, .unset, .unset, .unset, .unset] [(.int p2)])) _
            refine XS.iconst X40.here hx rfl (hb hby at_158) ?_
            show Steps p.tables e below (T40.setTop (mkF m 159 #[.val (.int p1), .val (.int p2), .val (.ref b1), .val (.ref b19), .val (.int (Int32.ofNat x0)), .unset, .unset, .unset, .unset, .unset] [(.int (2 : Int32)), (.int p2)])) _
            refine XS.iushr X40.here hx rfl (hb hby at_159) rfl ?_
            show Steps p.tables e below (T40.setTop (mkF m 160 #[.val (.int p1), .val (.int p2), .val (.ref b1), .val (.ref b19), .val (.int (Int32.ofNat x0)), .unset, .unset, .unset, .unset, .unset] [(.int (own_sh (2 : Int32) p2))])) _
            refine XS.iconst X40.here hx rfl (hb hby at_160) ?_
            show Steps p.tables e below (T40.setTop (mkF m 161 #[.val (.int p1), .val (.int p2), .val (.ref b1), .val (.ref b19), .val (.int (Int32.ofNat x0)), .unset, .unset, .unset, .unset, .unset] [(.int (3 : Int32)), (.int (own_sh (2 : Int32) p2))])) _
            refine XS.iand X40.here hx rfl (hb hby at_161) rfl ?_
            show Steps p.tables e below (T40.setTop (mkF m 162 #[.val (.int p1), .val (.int p2), .val (.ref b1), .val (.ref b19), .val (.int (Int32.ofNat x0)), .unset, .unset, .unset, .unset, .unset] [(.int ((own_sh (2 : Int32) p2) &&& (3 : Int32)))])) _
            rw [ex1]
            show Steps p.tables e below (T40.setTop (mkF m 162 #[.val (.int p1), .val (.int p2), .val (.ref b1), .val (.ref b19), .val (.int (Int32.ofNat x0)), .unset, .unset, .unset, .unset, .unset] [(.int (Int32.ofNat x1))])) _
            refine XS.istore X40.here hx rfl (hb hby at_162) rfl (l' := #[.val (.int p1), .val (.int p2), .val (.ref b1), .val (.ref b19), .val (.int (Int32.ofNat x0)), .val (.int (Int32.ofNat x1)), .unset, .unset, .unset, .unset]) rfl ?_
            show Steps p.tables e below (T40.setTop (mkF m 164 #[.val (.int p1), .val (.int p2), .val (.ref b1), .val (.ref b19), .val (.int (Int32.ofNat x0)), .val (.int (Int32.ofNat x1)), .unset, .unset, .unset, .unset] [])) _
            refine XS.iloadN X40.here hx rfl (hb hby at_164) rfl ?_
            show Steps p.tables e below (T40.setTop (mkF m 165 #[.val (.int p1), .val (.int p2), .val (.ref b1), .val (.ref b19), .val (.int (Int32.ofNat x0)), .val (.int (Int32.ofNat x1)), .unset, .unset, .unset, .unset] [(.int p2)])) _
            refine XS.iconst X40.here hx rfl (hb hby at_165) ?_
            show Steps p.tables e below (T40.setTop (mkF m 166 #[.val (.int p1), .val (.int p2), .val (.ref b1), .val (.ref b19), .val (.int (Int32.ofNat x0)), .val (.int (Int32.ofNat x1)), .unset, .unset, .unset, .unset] [(.int (4 : Int32)), (.int p2)])) _
            refine XS.iushr X40.here hx rfl (hb hby at_166) rfl ?_
            show Steps p.tables e below (T40.setTop (mkF m 167 #[.val (.int p1), .val (.int p2), .val (.ref b1), .val (.ref b19), .val (.int (Int32.ofNat x0)), .val (.int (Int32.ofNat x1)), .unset, .unset, .unset, .unset] [(.int (own_sh (4 : Int32) p2))])) _
            refine XS.iconst X40.here hx rfl (hb hby at_167) ?_
            show Steps p.tables e below (T40.setTop (mkF m 168 #[.val (.int p1), .val (.int p2), .val (.ref b1), .val (.ref b19), .val (.int (Int32.ofNat x0)), .val (.int (Int32.ofNat x1)), .unset, .unset, .unset, .unset] [(.int (3 : Int32)), (.int (own_sh (4 : Int32) p2))])) _
            refine XS.iand X40.here hx rfl (hb hby at_168) rfl ?_
            show Steps p.tables e below (T40.setTop (mkF m 169 #[.val (.int p1), .val (.int p2), .val (.ref b1), .val (.ref b19), .val (.int (Int32.ofNat x0)), .val (.int (Int32.ofNat x1)), .unset, .unset, .unset, .unset] [(.int ((own_sh (4 : Int32) p2) &&& (3 : Int32)))])) _
            rw [ex2]
            show Steps p.tables e below (T40.setTop (mkF m 169 #[.val (.int p1), .val (.int p2), .val (.ref b1), .val (.ref b19), .val (.int (Int32.ofNat x0)), .val (.int (Int32.ofNat x1)), .unset, .unset, .unset, .unset] [(.int (Int32.ofNat x2))])) _
            refine XS.istore X40.here hx rfl (hb hby at_169) rfl (l' := #[.val (.int p1), .val (.int p2), .val (.ref b1), .val (.ref b19), .val (.int (Int32.ofNat x0)), .val (.int (Int32.ofNat x1)), .val (.int (Int32.ofNat x2)), .unset, .unset, .unset]) rfl ?_
            show Steps p.tables e below (T40.setTop (mkF m 171 #[.val (.int p1), .val (.int p2), .val (.ref b1), .val (.ref b19), .val (.int (Int32.ofNat x0)), .val (.int (Int32.ofNat x1)), .val (.int (Int32.ofNat x2)), .unset, .unset, .unset] [])) _
            refine XS.aloadN X40.here hx rfl (hb hby at_171) rfl rfl ?_
            show Steps p.tables e below (T40.setTop (mkF m 172 #[.val (.int p1), .val (.int p2), .val (.ref b1), .val (.ref b19), .val (.int (Int32.ofNat x0)), .val (.int (Int32.ofNat x1)), .val (.int (Int32.ofNat x2)), .unset, .unset, .unset] [(.ref b19)])) _
            refine XS.iload X40.here hx rfl (hb hby at_172) rfl ?_
            show Steps p.tables e below (T40.setTop (mkF m 174 #[.val (.int p1), .val (.int p2), .val (.ref b1), .val (.ref b19), .val (.int (Int32.ofNat x0)), .val (.int (Int32.ofNat x1)), .val (.int (Int32.ofNat x2)), .unset, .unset, .unset] [(.int (Int32.ofNat x0)), (.ref b19)])) _
            refine st41.trans ?_
            show Steps p.tables e below (T41.setTop (mkF m 177 #[.val (.int p1), .val (.int p2), .val (.ref b1), .val (.ref b19), .val (.int (Int32.ofNat x0)), .val (.int (Int32.ofNat x1)), .val (.int (Int32.ofNat x2)), .unset, .unset, .unset] [(.int (Int32.ofNat (own_c3 (own_sel g0 g1 g2 g3) x0)))])) _
            refine XS.istore X41.here hx rfl (hb hby at_177) rfl (l' := #[.val (.int p1), .val (.int p2), .val (.ref b1), .val (.ref b19), .val (.int (Int32.ofNat x0)), .val (.int (Int32.ofNat x1)), .val (.int (Int32.ofNat x2)), .val (.int (Int32.ofNat (own_c3 (own_sel g0 g1 g2 g3) x0))), .unset, .unset]) rfl ?_
            show Steps p.tables e below (T41.setTop (mkF m 179 #[.val (.int p1), .val (.int p2), .val (.ref b1), .val (.ref b19), .val (.int (Int32.ofNat x0)), .val (.int (Int32.ofNat x1)), .val (.int (Int32.ofNat x2)), .val (.int (Int32.ofNat (own_c3 (own_sel g0 g1 g2 g3) x0))), .unset, .unset] [])) _
            refine XS.aloadN X41.here hx rfl (hb hby at_179) rfl rfl ?_
            show Steps p.tables e below (T41.setTop (mkF m 180 #[.val (.int p1), .val (.int p2), .val (.ref b1), .val (.ref b19), .val (.int (Int32.ofNat x0)), .val (.int (Int32.ofNat x1)), .val (.int (Int32.ofNat x2)), .val (.int (Int32.ofNat (own_c3 (own_sel g0 g1 g2 g3) x0))), .unset, .unset] [(.ref b19)])) _
            refine XS.iload X41.here hx rfl (hb hby at_180) rfl ?_
            show Steps p.tables e below (T41.setTop (mkF m 182 #[.val (.int p1), .val (.int p2), .val (.ref b1), .val (.ref b19), .val (.int (Int32.ofNat x0)), .val (.int (Int32.ofNat x1)), .val (.int (Int32.ofNat x2)), .val (.int (Int32.ofNat (own_c3 (own_sel g0 g1 g2 g3) x0))), .unset, .unset] [(.int (Int32.ofNat x1)), (.ref b19)])) _
            refine st43.trans ?_
            show Steps p.tables e below (T43.setTop (mkF m 185 #[.val (.int p1), .val (.int p2), .val (.ref b1), .val (.ref b19), .val (.int (Int32.ofNat x0)), .val (.int (Int32.ofNat x1)), .val (.int (Int32.ofNat x2)), .val (.int (Int32.ofNat (own_c3 (own_sel g0 g1 g2 g3) x0))), .unset, .unset] [(.int (Int32.ofNat (own_c3 (own_sel m0_41 m1_41 m2_41 m3_41) x1)))])) _
            refine XS.istore X43.here hx rfl (hb hby at_185) rfl (l' := #[.val (.int p1), .val (.int p2), .val (.ref b1), .val (.ref b19), .val (.int (Int32.ofNat x0)), .val (.int (Int32.ofNat x1)), .val (.int (Int32.ofNat x2)), .val (.int (Int32.ofNat (own_c3 (own_sel g0 g1 g2 g3) x0))), .val (.int (Int32.ofNat (own_c3 (own_sel m0_41 m1_41 m2_41 m3_41) x1))), .unset]) rfl ?_
            show Steps p.tables e below (T43.setTop (mkF m 187 #[.val (.int p1), .val (.int p2), .val (.ref b1), .val (.ref b19), .val (.int (Int32.ofNat x0)), .val (.int (Int32.ofNat x1)), .val (.int (Int32.ofNat x2)), .val (.int (Int32.ofNat (own_c3 (own_sel g0 g1 g2 g3) x0))), .val (.int (Int32.ofNat (own_c3 (own_sel m0_41 m1_41 m2_41 m3_41) x1))), .unset] [])) _
            refine XS.aloadN X43.here hx rfl (hb hby at_187) rfl rfl ?_
            show Steps p.tables e below (T43.setTop (mkF m 188 #[.val (.int p1), .val (.int p2), .val (.ref b1), .val (.ref b19), .val (.int (Int32.ofNat x0)), .val (.int (Int32.ofNat x1)), .val (.int (Int32.ofNat x2)), .val (.int (Int32.ofNat (own_c3 (own_sel g0 g1 g2 g3) x0))), .val (.int (Int32.ofNat (own_c3 (own_sel m0_41 m1_41 m2_41 m3_41) x1))), .unset] [(.ref b19)])) _
            refine XS.iload X43.here hx rfl (hb hby at_188) rfl ?_
            show Steps p.tables e below (T43.setTop (mkF m 190 #[.val (.int p1), .val (.int p2), .val (.ref b1), .val (.ref b19), .val (.int (Int32.ofNat x0)), .val (.int (Int32.ofNat x1)), .val (.int (Int32.ofNat x2)), .val (.int (Int32.ofNat (own_c3 (own_sel g0 g1 g2 g3) x0))), .val (.int (Int32.ofNat (own_c3 (own_sel m0_41 m1_41 m2_41 m3_41) x1))), .unset] [(.int (Int32.ofNat x2)), (.ref b19)])) _
            refine st45.trans ?_
            show Steps p.tables e below (T45.setTop (mkF m 193 #[.val (.int p1), .val (.int p2), .val (.ref b1), .val (.ref b19), .val (.int (Int32.ofNat x0)), .val (.int (Int32.ofNat x1)), .val (.int (Int32.ofNat x2)), .val (.int (Int32.ofNat (own_c3 (own_sel g0 g1 g2 g3) x0))), .val (.int (Int32.ofNat (own_c3 (own_sel m0_41 m1_41 m2_41 m3_41) x1))), .unset] [(.int (Int32.ofNat (own_c3 (own_sel m0_43 m1_43 m2_43 m3_43) x2)))])) _
            refine XS.istore X45.here hx rfl (hb hby at_193) rfl (l' := #[.val (.int p1), .val (.int p2), .val (.ref b1), .val (.ref b19), .val (.int (Int32.ofNat x0)), .val (.int (Int32.ofNat x1)), .val (.int (Int32.ofNat x2)), .val (.int (Int32.ofNat (own_c3 (own_sel g0 g1 g2 g3) x0))), .val (.int (Int32.ofNat (own_c3 (own_sel m0_41 m1_41 m2_41 m3_41) x1))), .val (.int (Int32.ofNat (own_c3 (own_sel m0_43 m1_43 m2_43 m3_43) x2)))]) rfl ?_
            show Steps p.tables e below (T45.setTop (mkF m 195 #[.val (.int p1), .val (.int p2), .val (.ref b1), .val (.ref b19), .val (.int (Int32.ofNat x0)), .val (.int (Int32.ofNat x1)), .val (.int (Int32.ofNat x2)), .val (.int (Int32.ofNat (own_c3 (own_sel g0 g1 g2 g3) x0))), .val (.int (Int32.ofNat (own_c3 (own_sel m0_41 m1_41 m2_41 m3_41) x1))), .val (.int (Int32.ofNat (own_c3 (own_sel m0_43 m1_43 m2_43 m3_43) x2)))] [])) _
            refine XS.iload X45.here hx rfl (hb hby at_195) rfl ?_
            show Steps p.tables e below (T45.setTop (mkF m 197 #[.val (.int p1), .val (.int p2), .val (.ref b1), .val (.ref b19), .val (.int (Int32.ofNat x0)), .val (.int (Int32.ofNat x1)), .val (.int (Int32.ofNat x2)), .val (.int (Int32.ofNat (own_c3 (own_sel g0 g1 g2 g3) x0))), .val (.int (Int32.ofNat (own_c3 (own_sel m0_41 m1_41 m2_41 m3_41) x1))), .val (.int (Int32.ofNat (own_c3 (own_sel m0_43 m1_43 m2_43 m3_43) x2)))] [(.int (Int32.ofNat (own_c3 (own_sel g0 g1 g2 g3) x0)))])) _
            refine XS.aloadN X45.here hx rfl (hb hby at_197) rfl rfl ?_
            show Steps p.tables e below (T45.setTop (mkF m 198 #[.val (.int p1), .val (.int p2), .val (.ref b1), .val (.ref b19), .val (.int (Int32.ofNat x0)), .val (.int (Int32.ofNat x1)), .val (.int (Int32.ofNat x2)), .val (.int (Int32.ofNat (own_c3 (own_sel g0 g1 g2 g3) x0))), .val (.int (Int32.ofNat (own_c3 (own_sel m0_41 m1_41 m2_41 m3_41) x1))), .val (.int (Int32.ofNat (own_c3 (own_sel m0_43 m1_43 m2_43 m3_43) x2)))] [(.ref b1), (.int (Int32.ofNat (own_c3 (own_sel g0 g1 g2 g3) x0)))])) _
            refine XS.iload X45.here hx rfl (hb hby at_198) rfl ?_
            show Steps p.tables e below (T45.setTop (mkF m 200 #[.val (.int p1), .val (.int p2), .val (.ref b1), .val (.ref b19), .val (.int (Int32.ofNat x0)), .val (.int (Int32.ofNat x1)), .val (.int (Int32.ofNat x2)), .val (.int (Int32.ofNat (own_c3 (own_sel g0 g1 g2 g3) x0))), .val (.int (Int32.ofNat (own_c3 (own_sel m0_41 m1_41 m2_41 m3_41) x1))), .val (.int (Int32.ofNat (own_c3 (own_sel m0_43 m1_43 m2_43 m3_43) x2)))] [(.int (Int32.ofNat x0)), (.ref b1), (.int (Int32.ofNat (own_c3 (own_sel g0 g1 g2 g3) x0)))])) _
            refine st50 _ ?_
            show Steps p.tables e below (T50.setTop (mkF m 203 #[.val (.int p1), .val (.int p2), .val (.ref b1), .val (.ref b19), .val (.int (Int32.ofNat x0)), .val (.int (Int32.ofNat x1)), .val (.int (Int32.ofNat x2)), .val (.int (Int32.ofNat (own_c3 (own_sel g0 g1 g2 g3) x0))), .val (.int (Int32.ofNat (own_c3 (own_sel m0_41 m1_41 m2_41 m3_41) x1))), .val (.int (Int32.ofNat (own_c3 (own_sel m0_43 m1_43 m2_43 m3_43) x2)))] [(.int (Int32.ofNat (own_sel g0 g1 g2 g3 (own_sel g0 g1 g2 g3 (own_sel g0 g1 g2 g3 x0))))), (.int (Int32.ofNat (own_c3 (own_sel g0 g1 g2 g3) x0)))])) _
            refine XS.icmpNo X50.here hx rfl (hb hby at_203) rfl (teq (rfl : (Int32.ofNat (own_c3 (own_sel g0 g1 g2 g3) x0)) = (Int32.ofNat (own_sel g0 g1 g2 g3 (own_sel g0 g1 g2 g3 (own_sel g0 g1 g2 g3 x0)))))).2 ?_
            show Steps p.tables e below (T50.setTop (mkF m 206 #[.val (.int p1), .val (.int p2), .val (.ref b1), .val (.ref b19), .val (.int (Int32.ofNat x0)), .val (.int (Int32.ofNat x1)), .val (.int (Int32.ofNat x2)), .val (.int (Int32.ofNat (own_c3 (own_sel g0 g1 g2 g3) x0))), .val (.int (Int32.ofNat (own_c3 (own_sel m0_41 m1_41 m2_41 m3_41) x1))), .val (.int (Int32.ofNat (own_c3 (own_sel m0_43 m1_43 m2_43 m3_43) x2)))] [])) _
            refine XS.iload X50.here hx rfl (hb hby at_206) rfl ?_
            show Steps p.tables e below (T50.setTop (mkF m 208 #[.val (.int p1), .val (.int p2), .val (.ref b1), .val (.ref b19), .val (.int (Int32.ofNat x0)), .val (.int (Int32.ofNat x1)), .val (.int (Int32.ofNat x2)), .val (.int (Int32.ofNat (own_c3 (own_sel g0 g1 g2 g3) x0))), .val (.int (Int32.ofNat (own_c3 (own_sel m0_41 m1_41 m2_41 m3_41) x1))), .val (.int (Int32.ofNat (own_c3 (own_sel m0_43 m1_43 m2_43 m3_43) x2)))] [(.int (Int32.ofNat (own_c3 (own_sel m0_41 m1_41 m2_41 m3_41) x1)))])) _
            refine XS.aloadN X50.here hx rfl (hb hby at_208) rfl rfl ?_
            show Steps p.tables e below (T50.setTop (mkF m 209 #[.val (.int p1), .val (.int p2), .val (.ref b1), .val (.ref b19), .val (.int (Int32.ofNat x0)), .val (.int (Int32.ofNat x1)), .val (.int (Int32.ofNat x2)), .val (.int (Int32.ofNat (own_c3 (own_sel g0 g1 g2 g3) x0))), .val (.int (Int32.ofNat (own_c3 (own_sel m0_41 m1_41 m2_41 m3_41) x1))), .val (.int (Int32.ofNat (own_c3 (own_sel m0_43 m1_43 m2_43 m3_43) x2)))] [(.ref b1), (.int (Int32.ofNat (own_c3 (own_sel m0_41 m1_41 m2_41 m3_41) x1)))])) _
            refine XS.iload X50.here hx rfl (hb hby at_209) rfl ?_
            show Steps p.tables e below (T50.setTop (mkF m 211 #[.val (.int p1), .val (.int p2), .val (.ref b1), .val (.ref b19), .val (.int (Int32.ofNat x0)), .val (.int (Int32.ofNat x1)), .val (.int (Int32.ofNat x2)), .val (.int (Int32.ofNat (own_c3 (own_sel g0 g1 g2 g3) x0))), .val (.int (Int32.ofNat (own_c3 (own_sel m0_41 m1_41 m2_41 m3_41) x1))), .val (.int (Int32.ofNat (own_c3 (own_sel m0_43 m1_43 m2_43 m3_43) x2)))] [(.int (Int32.ofNat x1)), (.ref b1), (.int (Int32.ofNat (own_c3 (own_sel m0_41 m1_41 m2_41 m3_41) x1)))])) _
            refine st51 _ ?_
            show Steps p.tables e below (T51.setTop (mkF m 214 #[.val (.int p1), .val (.int p2), .val (.ref b1), .val (.ref b19), .val (.int (Int32.ofNat x0)), .val (.int (Int32.ofNat x1)), .val (.int (Int32.ofNat x2)), .val (.int (Int32.ofNat (own_c3 (own_sel g0 g1 g2 g3) x0))), .val (.int (Int32.ofNat (own_c3 (own_sel m0_41 m1_41 m2_41 m3_41) x1))), .val (.int (Int32.ofNat (own_c3 (own_sel m0_43 m1_43 m2_43 m3_43) x2)))] [(.int (Int32.ofNat (own_sel g0 g1 g2 g3 (own_sel g0 g1 g2 g3 (own_sel g0 g1 g2 g3 x1))))), (.int (Int32.ofNat (own_c3 (own_sel m0_41 m1_41 m2_41 m3_41) x1)))])) _
            refine XS.icmpNo X51.here hx rfl (hb hby at_214) rfl (teq ((congrArg Int32.ofNat (hc41 x1 hx1)) : (Int32.ofNat (own_c3 (own_sel m0_41 m1_41 m2_41 m3_41) x1)) = (Int32.ofNat (own_sel g0 g1 g2 g3 (own_sel g0 g1 g2 g3 (own_sel g0 g1 g2 g3 x1)))))).2 ?_
            show Steps p.tables e below (T51.setTop (mkF m 217 #[.val (.int p1), .val (.int p2), .val (.ref b1), .val (.ref b19), .val (.int (Int32.ofNat x0)), .val (.int (Int32.ofNat x1)), .val (.int (Int32.ofNat x2)), .val (.int (Int32.ofNat (own_c3 (own_sel g0 g1 g2 g3) x0))), .val (.int (Int32.ofNat (own_c3 (own_sel m0_41 m1_41 m2_41 m3_41) x1))), .val (.int (Int32.ofNat (own_c3 (own_sel m0_43 m1_43 m2_43 m3_43) x2)))] [])) _
            refine XS.iload X51.here hx rfl (hb hby at_217) rfl ?_
            show Steps p.tables e below (T51.setTop (mkF m 219 #[.val (.int p1), .val (.int p2), .val (.ref b1), .val (.ref b19), .val (.int (Int32.ofNat x0)), .val (.int (Int32.ofNat x1)), .val (.int (Int32.ofNat x2)), .val (.int (Int32.ofNat (own_c3 (own_sel g0 g1 g2 g3) x0))), .val (.int (Int32.ofNat (own_c3 (own_sel m0_41 m1_41 m2_41 m3_41) x1))), .val (.int (Int32.ofNat (own_c3 (own_sel m0_43 m1_43 m2_43 m3_43) x2)))] [(.int (Int32.ofNat (own_c3 (own_sel m0_43 m1_43 m2_43 m3_43) x2)))])) _
            refine XS.aloadN X51.here hx rfl (hb hby at_219) rfl rfl ?_
            show Steps p.tables e below (T51.setTop (mkF m 220 #[.val (.int p1), .val (.int p2), .val (.ref b1), .val (.ref b19), .val (.int (Int32.ofNat x0)), .val (.int (Int32.ofNat x1)), .val (.int (Int32.ofNat x2)), .val (.int (Int32.ofNat (own_c3 (own_sel g0 g1 g2 g3) x0))), .val (.int (Int32.ofNat (own_c3 (own_sel m0_41 m1_41 m2_41 m3_41) x1))), .val (.int (Int32.ofNat (own_c3 (own_sel m0_43 m1_43 m2_43 m3_43) x2)))] [(.ref b1), (.int (Int32.ofNat (own_c3 (own_sel m0_43 m1_43 m2_43 m3_43) x2)))])) _
            refine XS.iload X51.here hx rfl (hb hby at_220) rfl ?_
            show Steps p.tables e below (T51.setTop (mkF m 222 #[.val (.int p1), .val (.int p2), .val (.ref b1), .val (.ref b19), .val (.int (Int32.ofNat x0)), .val (.int (Int32.ofNat x1)), .val (.int (Int32.ofNat x2)), .val (.int (Int32.ofNat (own_c3 (own_sel g0 g1 g2 g3) x0))), .val (.int (Int32.ofNat (own_c3 (own_sel m0_41 m1_41 m2_41 m3_41) x1))), .val (.int (Int32.ofNat (own_c3 (own_sel m0_43 m1_43 m2_43 m3_43) x2)))] [(.int (Int32.ofNat x2)), (.ref b1), (.int (Int32.ofNat (own_c3 (own_sel m0_43 m1_43 m2_43 m3_43) x2)))])) _
            refine st52 _ ?_
            show Steps p.tables e below (T52.setTop (mkF m 225 #[.val (.int p1), .val (.int p2), .val (.ref b1), .val (.ref b19), .val (.int (Int32.ofNat x0)), .val (.int (Int32.ofNat x1)), .val (.int (Int32.ofNat x2)), .val (.int (Int32.ofNat (own_c3 (own_sel g0 g1 g2 g3) x0))), .val (.int (Int32.ofNat (own_c3 (own_sel m0_41 m1_41 m2_41 m3_41) x1))), .val (.int (Int32.ofNat (own_c3 (own_sel m0_43 m1_43 m2_43 m3_43) x2)))] [(.int (Int32.ofNat (own_sel g0 g1 g2 g3 (own_sel g0 g1 g2 g3 (own_sel g0 g1 g2 g3 x2))))), (.int (Int32.ofNat (own_c3 (own_sel m0_43 m1_43 m2_43 m3_43) x2)))])) _
            refine XS.icmpNo X52.here hx rfl (hb hby at_225) rfl (teq ((congrArg Int32.ofNat ((fun y hy => (hc43 y hy).trans (hc41 y hy)) x2 hx2)) : (Int32.ofNat (own_c3 (own_sel m0_43 m1_43 m2_43 m3_43) x2)) = (Int32.ofNat (own_sel g0 g1 g2 g3 (own_sel g0 g1 g2 g3 (own_sel g0 g1 g2 g3 x2)))))).2 ?_
            show Steps p.tables e below (T52.setTop (mkF m 228 #[.val (.int p1), .val (.int p2), .val (.ref b1), .val (.ref b19), .val (.int (Int32.ofNat x0)), .val (.int (Int32.ofNat x1)), .val (.int (Int32.ofNat x2)), .val (.int (Int32.ofNat (own_c3 (own_sel g0 g1 g2 g3) x0))), .val (.int (Int32.ofNat (own_c3 (own_sel m0_41 m1_41 m2_41 m3_41) x1))), .val (.int (Int32.ofNat (own_c3 (own_sel m0_43 m1_43 m2_43 m3_43) x2)))] [])) _
            refine XS.iconst X52.here hx rfl (hb hby at_228) ?_
            show Steps p.tables e below (T52.setTop (mkF m 229 #[.val (.int p1), .val (.int p2), .val (.ref b1), .val (.ref b19), .val (.int (Int32.ofNat x0)), .val (.int (Int32.ofNat x1)), .val (.int (Int32.ofNat x2)), .val (.int (Int32.ofNat (own_c3 (own_sel g0 g1 g2 g3) x0))), .val (.int (Int32.ofNat (own_c3 (own_sel m0_41 m1_41 m2_41 m3_41) x1))), .val (.int (Int32.ofNat (own_c3 (own_sel m0_43 m1_43 m2_43 m3_43) x2)))] [(.int (1 : Int32))])) _
            refine XS.goto X52.here hx rfl (pc0 := 229) (pc' := 233) rfl (hb hby at_229) (by decide) (by decide) ?_
            show Steps p.tables e below (T52.setTop (mkF m 233 #[.val (.int p1), .val (.int p2), .val (.ref b1), .val (.ref b19), .val (.int (Int32.ofNat x0)), .val (.int (Int32.ofNat x1)), .val (.int (Int32.ofNat x2)), .val (.int (Int32.ofNat (own_c3 (own_sel g0 g1 g2 g3) x0))), .val (.int (Int32.ofNat (own_c3 (own_sel m0_41 m1_41 m2_41 m3_41) x1))), .val (.int (Int32.ofNat (own_c3 (own_sel m0_43 m1_43 m2_43 m3_43) x2)))] [(.int (1 : Int32))])) _
            exact retN X52 hx (t := .boolean) Bd.returns (by simp) (hb hby at_233) hr
          · show Qrm0 Z p1 p2  h0 n0 _ T52.heap _
            rw [e52]
            exact ⟨rfl, N52⟩
set_option maxRecDepth 65536 in
set_option maxHeartbeats 40000000 in
theorem comes_1 {Post : Tables → Env → Array Value → State → Outcome → State → Prop} (hpost : ∀ tb e args s v u, (limb_1_1.after args s (.returned v) u = true ∧ limb_1_2.after args s (.returned v) u = true ∧ True) → FrameEnd s (.returned v) u (Jvm.fieldLocs frame_1_writes args s ++ Jvm.arrayLocs frame_1_arrays args s ++ Jvm.staticLocs frame_1_statics s) 16 128 → Post tb e args s (.returned v) u) :
    ArmFor flags0 classFile x code maxLocals ret World_1 tables_1 room_1 Calls_1 rest_1 Pre_1 Post := by
  intro l hfl _ _ p e ha hc hk s m args below hf hA hF happ hP
  obtain ⟨hcalls, hrest, hpre⟩ := hP
  obtain ⟨-, -, -, hnamed, -, -, -, hat⟩ := (Spec.applies_iff hf).mp happ
  obtain ⟨hg, hn⟩ := and_e (Cond.before_iff.mp (show (Jvm.Cond.and given_1 narrow_1).before args s = true from hpre))
  obtain ⟨gv1, gv2⟩ := and_e hg
  obtain ⟨gv3, gv4⟩ := and_e gv2
  obtain ⟨w0, w1, rfl⟩ : ∃ w0 w1 : Value, args = #[w0, w1] := by
    have hs : args.size = 2 := by simpa [Cond.value, given_1] using gv1
    obtain ⟨L⟩ := args
    match L, hs with
    | [w0, w1], _ => exact ⟨w0, w1, rfl⟩
  have hw := fun d (hd : d ∈ tables_1) => atoms_spec (ws := Jvm.Cond.code x code maxLocals ret :: tables_1) hat d (List.mem_cons_of_mem _ hd)
  have hfit : Fit s := fun {y c} hc i hi => by
    obtain ⟨ha, rfl⟩ := Array.getElem?_eq_some_iff.mp hc
    have q := List.all_eq_true.mp ((Array.all_eq_true_iff_forall_mem.mp hF) _ (Array.getElem_mem ha)) i (List.mem_range.mpr hi)
    simpa [Array.getElem?_eq_getElem hi] using q
  obtain ⟨i0, ei0⟩ := is_v gv3
  obtain rfl : w0 = (.int i0) := Option.some.inj ei0
  obtain ⟨i1, ei1⟩ := is_v gv4
  obtain rfl : w1 = (.int i1) := Option.some.inj ei1
  obtain ⟨n, o, h1, h2, h3, _, L, rfl, ⟨rfl, N⟩, hq⟩ := rm0 l s _ hw tables_1 i0 i1  s.heap s.heap.size (Nat.le_refl _)  p e ha hc hk s m _ below hf ((Spec.applies_iff_loose hf).mp happ).1 ⟨rfl, State.Warmed39.refl s, rfl⟩ trivial
  refine ⟨n, _, h1, h2, h3, hpost _ _ _ _ _ _ ⟨Cond.after_iff.mpr rfl, Cond.after_iff.mpr (eq_i res_at (Term.int_eval (1)) rfl), trivial⟩ ⟨hq.1, hq.2.1, (hq.2.2.sift fun y hy => Or.inr (N y hy)).mono (by decide) (by decide)⟩⟩
theorem main_1_1 : Claimed_1_1 := comes_1 fun _ _ _ _ _ _ h hF => ⟨h.1, hF⟩
theorem main_1_2 : Claimed_1_2 := comes_1 fun _ _ _ _ _ _ h hF => ⟨h.2.1, hF⟩
end Jvm.Pilot.@@N@@
namespace Jvm.Pilot.@@N@@
open Jvm Jvm.ClassFile Sem Op Lib Jvm.Free Jvm.Stand Jvm.Pilot.@@N@@.Jvm.D
/-! MADE BY PROGRAM (witnessworld.py) out of the Statement's table words and the real class files: 9 classes; the members and pool entries that the words name. The judged class is class 1, her method 3. -/
namespace start1
open Jvm.ClassFile
def u (s : String) : CpInfo := .utf8 (stringToUtf16 s)
/-- a pool by its gaps: so many unusable entries, then the entry; so many at the end -/
def gap : Nat → List CpInfo → List CpInfo
  | 0, r => r
  | n + 1, r => .unusable :: gap n r
def poolList (es : List (Nat × CpInfo)) (last : Nat) : List CpInfo := es.foldr (fun e r => gap e.1 (e.2 :: r)) (gap last [])
def pool (es : List (Nat × CpInfo)) (last : Nat) : Array CpInfo := ⟨poolList es last⟩
def fileOf (pool : Array CpInfo) (this : Nat) (attrs : Array Attribute := #[]) (ms : Array MethodInfo := #[]) (fl : Nat := 33) (sup : Nat := 0) (ifs : Array Nat := #[]) (fds : Array FieldInfo := #[]) : ClassFile where
  minorVersion := 0
  majorVersion := 65
  constantPool := pool
  accessFlags := fl
  thisClass := this
  superClass := sup
  interfaces := ifs
  fields := fds
  methods := ms
  attributes := attrs
def plain (name : String) (sup : Option ClassId) : Class where
  name := name
  kind := .ordinary
  loader := none
  accessFlags := 33
  super := sup
  interfaces := #[]
  cf := none
  fields := #[]
  methods := #[]
  instanceTypes := #[]
  staticTypes := #[]
  resolved := #[]
  callSites := []
  init := .initialized
  statics := none
  mirror := none

def pool0 : Array CpInfo := pool [(5, u "<init>"), (0, u "()V"), (1, .class_ 10), (1, u "java/lang/Object")] 113

def k0c0 : Code := { maxStack := 0, maxLocals := 1, code := object_method_1_code, exceptionTable := #[], attributes := #[] }
def k0m0 : Method := { name := "<init>", desc := "()V", sig := { parameters := [], returnType := none }, accessFlags := 1, code := some k0c0 }
/-- java/lang/Object -/
def k0 : Class := { plain "java/lang/Object" none with
  accessFlags := 33
  interfaces := #[]
  cf := some (fileOf pool0 8 #[] #[{ accessFlags := 1, nameIndex := 5, descriptorIndex := 6, attributes := #[] }] 33 0 #[] #[])
  fields := #[]
  methods := #[k0m0]
  instanceTypes := #[]
  staticTypes := #[]
  resolved := Array.replicate 124 none
  statics := none }

def pool1 : Array CpInfo := pool [(2, .class_ 4), (0, .nameAndType 5 6), (0, u "java/lang/Object"), (0, u "<init>"), (0, u "()V"), (0, .methodref 8 9), (0, .class_ 10), (0, .nameAndType 11 12), (0, u "com/example/etape/etape/chart/EnclosureForestOutermostPinLaw"), (0, u "root"), (0, u "([II)I"), (0, .methodref 8 14), (0, .nameAndType 15 16), (0, u "isRootOf"), (0, u "([II)Z"), (0, .class_ 18), (0, u "com/example/etape/etape/chart/EnclosureForest"), (0, .methodref 17 3), (0, .methodref 17 21), (0, .nameAndType 22 6), (0, u "add"), (0, .methodref 17 24), (0, .nameAndType 25 26), (0, u "enclose"), (0, u "(II)V"), (0, .methodref 17 28), (0, .nameAndType 29 30), (0, u "outermost"), (0, u "(I)I"), (3, u "law"), (0, u "(II)Z")] 4

def k1m0 : Method := { name := "<init>", desc := "()V", sig := { parameters := [], returnType := none }, accessFlags := 1, code := none }
def k1c1 : Code := { maxStack := 4, maxLocals := 2, code := method_2_code, exceptionTable := #[], attributes := #[] }
def k1m1 : Method := { name := "root", desc := "([II)I", sig := { parameters := [(.array .int), .int], returnType := some .int }, accessFlags := 10, code := some k1c1 }
def k1c2 : Code := { maxStack := 2, maxLocals := 3, code := method_3_code, exceptionTable := #[], attributes := #[] }
def k1m2 : Method := { name := "isRootOf", desc := "([II)Z", sig := { parameters := [(.array .int), .int], returnType := some .boolean }, accessFlags := 10, code := some k1c2 }
def k1c3 : Code := { maxStack := 4, maxLocals := 10, code := code, exceptionTable := #[], attributes := #[] }
def k1m3 : Method := { name := "law", desc := "(II)Z", sig := { parameters := [.int, .int], returnType := some .boolean }, accessFlags := 9, code := some k1c3 }
/-- com/example/etape/etape/chart/EnclosureForestOutermostPinLaw -/
def k1 : Class := { plain "com/example/etape/etape/chart/EnclosureForestOutermostPinLaw" (some 0) with
  accessFlags := 49
  interfaces := #[]
  cf := some (fileOf pool1 8 #[] #[{ accessFlags := 1, nameIndex := 5, descriptorIndex := 6, attributes := #[] }, { accessFlags := 10, nameIndex := 11, descriptorIndex := 12, attributes := #[] }, { accessFlags := 10, nameIndex := 15, descriptorIndex := 16, attributes := #[] }, { accessFlags := 9, nameIndex := 34, descriptorIndex := 35, attributes := #[] }] 49 2 #[] #[])
  fields := #[]
  methods := #[k1m0, k1m1, k1m2, k1m3]
  instanceTypes := #[]
  staticTypes := #[]
  resolved := Array.replicate 40 none
  statics := none }

def pool2 : Array CpInfo := pool [(1, .methodref 2 3), (0, .class_ 4), (0, .nameAndType 5 6), (0, u "java/lang/Object"), (0, u "<init>"), (0, u "()V"), (0, .fieldref 8 9), (0, .class_ 10), (0, .nameAndType 11 12), (0, u "com/example/etape/etape/chart/EnclosureForest"), (0, u "link"), (0, u "[I"), (0, .fieldref 8 14), (0, .nameAndType 15 16), (0, u "size"), (0, u "I"), (8, u "add"), (1, u "outermost"), (0, u "(I)I"), (0, u "enclose"), (0, u "(II)V")] 2

def k2c0 : Code := { maxStack := 2, maxLocals := 1, code := prog_24_method_1_code, exceptionTable := #[], attributes := #[] }
def k2m0 : Method := { name := "<init>", desc := "()V", sig := { parameters := [], returnType := none }, accessFlags := 0, code := some k2c0 }
def k2c1 : Code := { maxStack := 4, maxLocals := 1, code := prog_24_method_2_code, exceptionTable := #[], attributes := #[] }
def k2m1 : Method := { name := "add", desc := "()V", sig := { parameters := [], returnType := none }, accessFlags := 0, code := some k2c1 }
def k2c2 : Code := { maxStack := 5, maxLocals := 3, code := prog_24_method_3_code, exceptionTable := #[], attributes := #[] }
def k2m2 : Method := { name := "outermost", desc := "(I)I", sig := { parameters := [.int], returnType := some .int }, accessFlags := 0, code := some k2c2 }
def k2c3 : Code := { maxStack := 3, maxLocals := 3, code := prog_24_method_4_code, exceptionTable := #[], attributes := #[] }
def k2m3 : Method := { name := "enclose", desc := "(II)V", sig := { parameters := [.int, .int], returnType := none }, accessFlags := 0, code := some k2c3 }
/-- com/example/etape/etape/chart/EnclosureForest -/
def k2 : Class := { plain "com/example/etape/etape/chart/EnclosureForest" (some 0) with
  accessFlags := 48
  interfaces := #[]
  cf := some (fileOf pool2 8 #[] #[{ accessFlags := 0, nameIndex := 5, descriptorIndex := 6, attributes := #[] }, { accessFlags := 0, nameIndex := 25, descriptorIndex := 6, attributes := #[] }, { accessFlags := 0, nameIndex := 27, descriptorIndex := 28, attributes := #[] }, { accessFlags := 0, nameIndex := 29, descriptorIndex := 30, attributes := #[] }] 48 2 #[] #[{ accessFlags := 2, nameIndex := 11, descriptorIndex := 12, attributes := #[] }, { accessFlags := 2, nameIndex := 15, descriptorIndex := 16, attributes := #[] }])
  fields := #[{ name := "link", type := (.array .int), accessFlags := 2, slot := 0, constantValue := 0 }, { name := "size", type := .int, accessFlags := 2, slot := 1, constantValue := 0 }]
  methods := #[k2m0, k2m1, k2m2, k2m3]
  instanceTypes := #[(.array .int), .int]
  staticTypes := #[]
  resolved := Array.replicate 33 none
  statics := none }

def pool3 : Array CpInfo := pool [(1, u "java/lang/Cloneable"), (0, .class_ 1), (0, u "java/lang/Object"), (0, .class_ 3)] 3

/-- java/lang/Cloneable -/
def k3 : Class := { plain "java/lang/Cloneable" (some 0) with
  accessFlags := 1537
  interfaces := #[]
  cf := some (fileOf pool3 2 #[] #[] 1537 4 #[] #[])
  fields := #[]
  methods := #[]
  instanceTypes := #[]
  staticTypes := #[]
  resolved := Array.replicate 8 none
  statics := none }

def pool4 : Array CpInfo := pool [(1, u "java/io/Serializable"), (0, .class_ 1), (0, u "java/lang/Object"), (0, .class_ 3)] 3

/-- java/io/Serializable -/
def k4 : Class := { plain "java/io/Serializable" (some 0) with
  accessFlags := 1537
  interfaces := #[]
  cf := some (fileOf pool4 2 #[] #[] 1537 4 #[] #[])
  fields := #[]
  methods := #[]
  instanceTypes := #[]
  staticTypes := #[]
  resolved := Array.replicate 8 none
  statics := none }

/-- the primitive byte -/
def k5 : Class := { plain "byte" none with kind := .primitive 'B', accessFlags := 0x411 }
/-- [B -/
def k6 : Class := { plain "[B" (some 0) with kind := .array 5 .byte, interfaces := #[3, 4], accessFlags := 1041 }

/-- the primitive int -/
def k7 : Class := { plain "int" none with kind := .primitive 'I', accessFlags := 0x411 }
/-- [I -/
def k8 : Class := { plain "[I" (some 0) with kind := .array 7 .int, interfaces := #[3, 4], accessFlags := 1041 }

def heap : Heap := #[]
def classes : Array Class := #[k0, k1, k2, k3, k4, k5, k6, k7, k8]
def interned : List (Array UInt16 × Addr) := []
def slotsUsed : Nat := 0
def theMethod : MethodId := ⟨1, 3⟩
def args0 : Array Value := #[.int 5, .int 7]
def aboutOver (below : List Frame) : State where
  vm := { classes := classes, interned := interned.toArray }
  heap := heap
  slotsUsed := slotsUsed
  threads := #[{ frames := .invoking theMethod args0 :: below }]
def below0 : List Frame := [.native { method := ⟨0, 0⟩, args := #[] }]
def about1 : State := aboutOver below0
def p0 : Program := .bare "" "" ""
def e0 : Env := launch0.env 0 0 0
theorem w_frames : about1.frames = Frame.invoking theMethod args0 :: below0 := rfl
set_option maxRecDepth 65536 in
theorem w_args : argsFit about1.vm theMethod args0 = true := by decide +kernel
set_option maxRecDepth 65536 in
theorem w_heap : heapFits about1 = true := by decide +kernel
set_option maxRecDepth 65536 in
theorem w_runnable : about1.curStatus? = some .runnable := by decide +kernel
set_option maxRecDepth 65536 in
theorem w_alone : about1.alone = true := by decide +kernel
set_option maxRecDepth 65536 in
theorem w_named : about1.methodNamed? x = some theMethod := by decide +kernel
set_option maxRecDepth 65536 in
theorem w_hears : about1.hears theMethod below0 = true := by decide +kernel
set_option maxRecDepth 65536 in
theorem w_ripe : about1.ripe theMethod args0 below0 = true := by decide +kernel
theorem w_running : about1.status = .running := rfl
set_option maxRecDepth 65536 in
theorem w_room : about1.hasRoom e0.platform room_1 = true :=
  launch0.hasRoom_least _ room_1 (by decide +kernel) (by decide +kernel) (by decide +kernel) (by decide +kernel) (by decide +kernel) (by decide +kernel)
theorem allAtoms_all (ts : List Jvm.Cond) (a : Array Jvm.Value) (st : Jvm.State) : (allAtoms ts).before a st = ts.all (fun c => c.before a st) := by
  induction ts with
  | nil => rfl
  | cons c t ih =>
    show (Jvm.Cond.and c (allAtoms t)).before a st = _
    rw [Jvm.Cond.before_and, ih, List.all_cons]
def words1 : List Jvm.Cond := Jvm.Cond.code x code maxLocals ret :: tables_1
/-- a 'code' word, met by the world's own term for the bytes: nothing is compared byte by byte -/
theorem code_word {y : MethodName} {bytes : ByteArray} {mx : Nat} {rt : Option FieldType} {a : Array Value} {s : State} {m : MethodId} {meth : Method} {c : Code} (h1 : s.methodNamed? y = some m) (h2 : s.vm.method? m = some meth) (h3 : meth.code = some c) (h4 : c.code = bytes)
    (h5 : (c.maxLocals == mx && c.exceptionTable.isEmpty && decide (c.maxStack ≤ mostOperands) && decide (meth.sig.returnType = rt) && !meth.locks && decide (parseMethodDescriptor y.desc = some meth.sig)) = true) : (Jvm.Cond.code y bytes mx rt).before a s = true := by
  simp only [Bool.and_eq_true, beq_iff_eq, Bool.not_eq_true', decide_eq_true_eq] at h5
  obtain ⟨⟨⟨⟨⟨g1, g2⟩, g3⟩, g4⟩, g5⟩, g6⟩ := h5
  simp [Cond.before, Cond.holds, Cond.value, h1, h2, h3, h4, g1, g2, g3, g4, g5, g6]
def isCode : Jvm.Cond → Bool
  | .code _ _ _ _ => true
  | _ => false
theorem all_split {L : List Jvm.Cond} {P : Jvm.Cond → Bool} (h1 : L.all (fun c => isCode c || P c) = true) (h2 : ∀ c ∈ L.filter isCode, P c = true) : L.all P = true := by
  refine List.all_eq_true.mpr fun c hc => ?_
  have h := List.all_eq_true.mp h1 c hc
  rcases Bool.eq_false_or_eq_true (isCode c) with hi | hi
  · exact h2 c (List.mem_filter.mpr ⟨hc, hi⟩)
  · simpa [hi] using h
set_option maxRecDepth 65536 in
theorem w_c0 : (Jvm.Cond.code x code maxLocals ret).before args0 about1 = true := code_word (m := ⟨1, 3⟩) (meth := k1m3) (c := k1c3) (by decide +kernel) rfl rfl rfl (by decide +kernel)
set_option maxRecDepth 65536 in
theorem w_c1 : (Jvm.Cond.code ({ cls := "com/example/etape/etape/chart/EnclosureForestOutermostPinLaw", name := "isRootOf", desc := "([II)Z" } : Jvm.MethodName) method_3_code (3 : Nat) (Option.some Jvm.ClassFile.FieldType.boolean)).before args0 about1 = true := code_word (m := ⟨1, 2⟩) (meth := k1m2) (c := k1c2) (by decide +kernel) rfl rfl rfl (by decide +kernel)
set_option maxRecDepth 65536 in
theorem w_c2 : (Jvm.Cond.code ({ cls := "com/example/etape/etape/chart/EnclosureForestOutermostPinLaw", name := "root", desc := "([II)I" } : Jvm.MethodName) method_2_code (2 : Nat) (Option.some Jvm.ClassFile.FieldType.int)).before args0 about1 = true := code_word (m := ⟨1, 1⟩) (meth := k1m1) (c := k1c1) (by decide +kernel) rfl rfl rfl (by decide +kernel)
set_option maxRecDepth 65536 in
theorem w_c3 : (Jvm.Cond.code ({ cls := "com/example/etape/etape/chart/EnclosureForest", name := "<init>", desc := "()V" } : Jvm.MethodName) prog_24_method_1_code (1 : Nat) (Option.none : Option Jvm.ClassFile.FieldType)).before args0 about1 = true := code_word (m := ⟨2, 0⟩) (meth := k2m0) (c := k2c0) (by decide +kernel) rfl rfl rfl (by decide +kernel)
set_option maxRecDepth 65536 in
theorem w_c4 : (Jvm.Cond.code ({ cls := "java/lang/Object", name := "<init>", desc := "()V" } : Jvm.MethodName) object_method_1_code (1 : Nat) (Option.none : Option Jvm.ClassFile.FieldType)).before args0 about1 = true := code_word (m := ⟨0, 0⟩) (meth := k0m0) (c := k0c0) (by decide +kernel) rfl rfl rfl (by decide +kernel)
set_option maxRecDepth 65536 in
theorem w_c5 : (Jvm.Cond.code ({ cls := "com/example/etape/etape/chart/EnclosureForest", name := "add", desc := "()V" } : Jvm.MethodName) prog_24_method_2_code (1 : Nat) (Option.none : Option Jvm.ClassFile.FieldType)).before args0 about1 = true := code_word (m := ⟨2, 1⟩) (meth := k2m1) (c := k2c1) (by decide +kernel) rfl rfl rfl (by decide +kernel)
set_option maxRecDepth 65536 in
theorem w_c6 : (Jvm.Cond.code ({ cls := "com/example/etape/etape/chart/EnclosureForest", name := "enclose", desc := "(II)V" } : Jvm.MethodName) prog_24_method_4_code (3 : Nat) (Option.none : Option Jvm.ClassFile.FieldType)).before args0 about1 = true := code_word (m := ⟨2, 3⟩) (meth := k2m3) (c := k2c3) (by decide +kernel) rfl rfl rfl (by decide +kernel)
set_option maxRecDepth 65536 in
theorem w_c7 : (Jvm.Cond.code ({ cls := "com/example/etape/etape/chart/EnclosureForest", name := "outermost", desc := "(I)I" } : Jvm.MethodName) prog_24_method_3_code (3 : Nat) (Option.some Jvm.ClassFile.FieldType.int)).before args0 about1 = true := code_word (m := ⟨2, 2⟩) (meth := k2m2) (c := k2c2) (by decide +kernel) rfl rfl rfl (by decide +kernel)
def codes1 : List Jvm.Cond := [Jvm.Cond.code x code maxLocals ret, Jvm.Cond.code ({ cls := "com/example/etape/etape/chart/EnclosureForestOutermostPinLaw", name := "isRootOf", desc := "([II)Z" } : Jvm.MethodName) method_3_code (3 : Nat) (Option.some Jvm.ClassFile.FieldType.boolean), Jvm.Cond.code ({ cls := "com/example/etape/etape/chart/EnclosureForestOutermostPinLaw", name := "root", desc := "([II)I" } : Jvm.MethodName) method_2_code (2 : Nat) (Option.some Jvm.ClassFile.FieldType.int), Jvm.Cond.code ({ cls := "com/example/etape/etape/chart/EnclosureForest", name := "<init>", desc := "()V" } : Jvm.MethodName) prog_24_method_1_code (1 : Nat) (Option.none : Option Jvm.ClassFile.FieldType), Jvm.Cond.code ({ cls := "java/lang/Object", name := "<init>", desc := "()V" } : Jvm.MethodName) object_method_1_code (1 : Nat) (Option.none : Option Jvm.ClassFile.FieldType), Jvm.Cond.code ({ cls := "com/example/etape/etape/chart/EnclosureForest", name := "add", desc := "()V" } : Jvm.MethodName) prog_24_method_2_code (1 : Nat) (Option.none : Option Jvm.ClassFile.FieldType), Jvm.Cond.code ({ cls := "com/example/etape/etape/chart/EnclosureForest", name := "enclose", desc := "(II)V" } : Jvm.MethodName) prog_24_method_4_code (3 : Nat) (Option.none : Option Jvm.ClassFile.FieldType), Jvm.Cond.code ({ cls := "com/example/etape/etape/chart/EnclosureForest", name := "outermost", desc := "(I)I" } : Jvm.MethodName) prog_24_method_3_code (3 : Nat) (Option.some Jvm.ClassFile.FieldType.int)]
set_option maxRecDepth 65536 in
theorem codes_eq : words1.filter isCode = codes1 := rfl
theorem w_codes : ∀ c ∈ words1.filter isCode, c.before args0 about1 = true := by
  rw [codes_eq]
  intro c hc
  simp only [codes1, List.mem_cons, List.not_mem_nil, or_false] at hc
  rcases hc with rfl | rfl | rfl | rfl | rfl | rfl | rfl | rfl
  · exact w_c0
  · exact w_c1
  · exact w_c2
  · exact w_c3
  · exact w_c4
  · exact w_c5
  · exact w_c6
  · exact w_c7
set_option maxRecDepth 65536 in
theorem w_t1 : (words1.take 24).all (fun c => isCode c || c.before args0 about1) = true := by decide +kernel
set_option maxRecDepth 65536 in
theorem w_t2 : (words1.drop 24).all (fun c => isCode c || c.before args0 about1) = true := by decide +kernel
theorem w_tables : (allAtoms (Jvm.Cond.code x code maxLocals ret :: tables_1)).before args0 about1 = true := by
  rw [allAtoms_all]
  show words1.all (fun c => c.before args0 about1) = true
  refine all_split ?_ w_codes
  rw [← List.take_append_drop 24 words1, List.all_append, w_t1, w_t2]
  rfl
set_option maxRecDepth 65536 in
theorem w_case : (Jvm.Cond.and given_1 narrow_1).before args0 about1 = true := by decide +kernel
theorem w_applies : (headSpec (Jvm.Cond.code x code maxLocals ret :: tables_1) room_1).applies x e0.platform about1 = true :=
  (Spec.applies_iff w_frames).mpr ⟨w_running, w_runnable, w_alone, w_named, w_hears, w_ripe, w_room, w_tables⟩
theorem atStart : AtStart classFile x code maxLocals ret World_1 tables_1 room_1 Calls_1 rest_1 Pre_1 launch0 p0 e0 about1 theMethod args0 below0 :=
  ⟨lists_1, trivial, launch0.admits_env _ _ _, launch0.least_env, fairChoices_fair.cas, fairChoices_fair.clock, w_frames, w_args, w_heap, w_applies, trivial, trivial, w_case⟩
end start1
theorem witness_1 : WitnessClaimed_1 := ⟨start1.p0, start1.e0, start1.about1, start1.theMethod, start1.args0, start1.below0, start1.atStart⟩
end Jvm.Pilot.@@N@@
