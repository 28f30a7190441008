import JvmDerived
import JvmDerived.Pilot.@@N@@Statement
import JvmDerived.Pilot.@@N@@Code
set_option linter.unusedVariables false
set_option linter.unusedSimpArgs false
namespace Jvm.RoadKit
open Sem ClassFile Op Lib Jvm.Stand Jvm.Free Jvm.LawKit
section New
variable {p : Program} {l : Launch} {e : Env} {R : Room} {s : State} {m : MethodId} {args : Array Value} {below : List Frame} {meth : Method} {c : Code} {T : State} {locs : List Loc} {cells slots : Nat}
theorem retI (X : Stand p l e R s m args below meth c T locs cells slots) (hx : p.tables.exec = Jvm.exec) {pc : Nat} {Ls : Array Slot} {z : Int32} {rest : List Value} (hret : meth.sig.returnType = some .int) (hd : decode c.code pc = .ok (.ireturn, 1)) {fs : List Frame}
    (hl : ∀ (f : JFrame) (acts : List Action), f.method = m → f.locked = none → f.entered = [] → (doReturn e (T.setTop f) acts (some (.int z))).1 = T.setFrames fs) : Steps p.tables e below (T.setTop (mkF m pc Ls (.int z :: rest))) (T.setFrames fs) := by
  have hm' : T.vm.method? m = some meth := X.method'
  have hn : narrow .int (.int z) = .int z := rfl
  show Steps p.tables e below (T.setTop { method := m, pc := pc, locals := Ls, stack := _ :: rest, locked := none }) _
  jvm_step X.here [X.here.top, hx, hd, hm', hret, hn]
  first | (intro acts; rw [hl _ acts rfl rfl rfl]) | rw [hl _ _ rfl rfl rfl]
  exact Steps.refl _
end New
end Jvm.RoadKit
namespace Jvm.Pilot.@@N@@
open Jvm Jvm.ClassFile Sem Op Lib Jvm.Free Jvm.Stand Jvm.LawKit Jvm.RoadKit Bundle Jvm.Pilot.@@N@@.Jvm.D
theorem own_nn (x : Int32) : nar .char (nar .char x) = nar .char x := by
  have h1 := c_i2c (nar .char x)
  have h2 := c_i2c x
  apply Int32.toInt_inj.mp
  show ((nar .char x).toUInt32.toUInt16.toUInt32.toInt32).toInt = (x.toUInt32.toUInt16.toUInt32.toInt32).toInt
  have e : (nar .char x).toInt = (x.toUInt32.toUInt16.toUInt32.toInt32).toInt := rfl
  omega
def own_xs (k : Int32) (p : Int32) : Int32 := (p.toUInt32 >>> (k &&& 31).toUInt32).toInt32
theorem own_eqI {s : State} {args : Array Value} {t : Term} {k : Int32} (hf : (Cond.eq t (.int k)).value args s none s [] = some true) : t.eval args s none [] s = some (.int k) := by
  obtain ⟨x, y, h1, h2, h3, -⟩ := cmp_v (Or.inl hf)
  have hy : y = .int k := Option.some.inj (h2.symm.trans (Term.int_eval k))
  subst hy
  have hx : x = .int k := by
    cases x <;> simp [Cond.value, h1, h2] at hf ⊢
    exact hf
  rw [h1, hx]
theorem own_sta_keep {Z : State} {h h' : Heap} {C n d C' : String} {v : Value} {b : Addr} (F : Sta Z h C n d v) (K : Keep h h' [b]) (E : Exa Z h b C') : Sta Z h' C n d v := by
  obtain ⟨cf, i, k, f, st, cell, h1, h2, h3, h4, h5, h6, h7⟩ := F
  obtain ⟨c2, k2, g1, -, -, g4, -⟩ := E
  have ne : st ≠ b := fun q => by
    subst q
    cases h5.symm.trans g1
    rw [g4] at h6
    cases h6
  exact ⟨cf, i, k, f, st, cell, h1, h2, h3, h4, K.2.1 st cell h5 (ninS ne nin0), h6, h7⟩
theorem d1_0 : decode prog_130_method_1_code 0 = .ok (.aload_n 0, 1) := by decide +kernel
theorem d1_1 : decode prog_130_method_1_code 1 = .ok (.invokespecial 1, 3) := by decide +kernel
theorem d1_4 : decode prog_130_method_1_code 4 = .ok (.aload_n 0, 1) := by decide +kernel
theorem d1_5 : decode prog_130_method_1_code 5 = .ok (.bipush 6, 2) := by decide +kernel
theorem d1_7 : decode prog_130_method_1_code 7 = .ok (.newarray .char, 2) := by decide +kernel
theorem d1_9 : decode prog_130_method_1_code 9 = .ok (.dup, 1) := by decide +kernel
theorem d1_10 : decode prog_130_method_1_code 10 = .ok (.iconst 0, 1) := by decide +kernel
theorem d1_11 : decode prog_130_method_1_code 11 = .ok (.iload_n 1, 1) := by decide +kernel
theorem d1_12 : decode prog_130_method_1_code 12 = .ok (.castore, 1) := by decide +kernel
theorem d1_13 : decode prog_130_method_1_code 13 = .ok (.dup, 1) := by decide +kernel
theorem d1_14 : decode prog_130_method_1_code 14 = .ok (.iconst 1, 1) := by decide +kernel
theorem d1_15 : decode prog_130_method_1_code 15 = .ok (.iload_n 2, 1) := by decide +kernel
theorem d1_16 : decode prog_130_method_1_code 16 = .ok (.castore, 1) := by decide +kernel
theorem d1_17 : decode prog_130_method_1_code 17 = .ok (.dup, 1) := by decide +kernel
theorem d1_18 : decode prog_130_method_1_code 18 = .ok (.iconst 2, 1) := by decide +kernel
theorem d1_19 : decode prog_130_method_1_code 19 = .ok (.iload_n 3, 1) := by decide +kernel
theorem d1_20 : decode prog_130_method_1_code 20 = .ok (.castore, 1) := by decide +kernel
theorem d1_21 : decode prog_130_method_1_code 21 = .ok (.dup, 1) := by decide +kernel
theorem d1_22 : decode prog_130_method_1_code 22 = .ok (.iconst 3, 1) := by decide +kernel
theorem d1_23 : decode prog_130_method_1_code 23 = .ok (.iload 4, 2) := by decide +kernel
theorem d1_25 : decode prog_130_method_1_code 25 = .ok (.castore, 1) := by decide +kernel
theorem d1_26 : decode prog_130_method_1_code 26 = .ok (.dup, 1) := by decide +kernel
theorem d1_27 : decode prog_130_method_1_code 27 = .ok (.iconst 4, 1) := by decide +kernel
theorem d1_28 : decode prog_130_method_1_code 28 = .ok (.iload 5, 2) := by decide +kernel
theorem d1_30 : decode prog_130_method_1_code 30 = .ok (.castore, 1) := by decide +kernel
theorem d1_31 : decode prog_130_method_1_code 31 = .ok (.dup, 1) := by decide +kernel
theorem d1_32 : decode prog_130_method_1_code 32 = .ok (.iconst 5, 1) := by decide +kernel
theorem d1_33 : decode prog_130_method_1_code 33 = .ok (.iload 6, 2) := by decide +kernel
theorem d1_35 : decode prog_130_method_1_code 35 = .ok (.castore, 1) := by decide +kernel
theorem d1_36 : decode prog_130_method_1_code 36 = .ok (.putfield 7, 3) := by decide +kernel
theorem d1_39 : decode prog_130_method_1_code 39 = .ok (.return_, 1) := by decide +kernel
theorem pn_com_example_fjordwire_fjordwire_model_ServiceCharacters : plainName "com/example/fjordwire/fjordwire/model/ServiceCharacters" = true := by first | (simp [plainName, overriddenIn]; done) | decide +kernel
theorem ef_rm1 (m : MethodId) (x0 : Addr) (x1 : Int32) (x2 : Int32) (x3 : Int32) (x4 : Int32) (x5 : Int32) (x6 : Int32) : entryFrame m #[(.ref x0), (.int x1), (.int x2), (.int x3), (.int x4), (.int x5), (.int x6)] 7 = mkF m 0 #[.val (.ref x0), .val (.int x1), .val (.int x2), .val (.int x3), .val (.int x4), .val (.int x5), .val (.int x6)] [] := by first | (simp [entryFrame, mkF, argsToLocals, Value.category]; done) | rfl
def Qrm1 (Z : State) (a1 : Addr) (p2 : Int32) (p3 : Int32) (p4 : Int32) (p5 : Int32) (p6 : Int32) (p7 : Int32)  (h0 : Heap) (n0 : Nat) (v : Option Value) (h : Heap) (L : List Loc) : Prop := ∃ (b : Addr) (kA : ClassId), v = none ∧ Fr n0 L ∧ Keep h0 h [a1] ∧ n0 ≤ b ∧ Exa Z h a1 "com/example/fjordwire/fjordwire/model/ServiceCharacters" ∧ Fld Z h a1 "com/example/fjordwire/fjordwire/model/ServiceCharacters" "m_characters" "[C" (.ref b) ∧ Arv Z h b kA .char (6 : Int32) [(.int (nar .char p2)), (.int (nar .char p3)), (.int (nar .char p4)), (.int (nar .char p5)), (.int (nar .char p6)), (.int (nar .char p7))] (.int (0 : Int32))
set_option maxRecDepth 65536 in
set_option maxHeartbeats 40000000 in
theorem rm1 (l : Launch) (Z : State) (a0 : Array Value) (hw : ∀ d ∈ tables_1, d.before a0 Z = true) (ws : List Jvm.Cond) (a1 : Addr) (p2 : Int32) (p3 : Int32) (p4 : Int32) (p5 : Int32) (p6 : Int32) (p7 : Int32)  (h0 : Heap) (n0 : Nat) (Z0 : n0 ≤ h0.size) (E_a1 : Exa Z h0 a1 "com/example/fjordwire/fjordwire/model/ServiceCharacters") (g_a1 : n0 ≤ a1) (F_m : Fld Z h0 a1 "com/example/fjordwire/fjordwire/model/ServiceCharacters" "m_characters" "[C" .null) :
    MetFree l (⟨"com/example/fjordwire/fjordwire/model/ServiceCharacters", "<init>", "(CCCCCC)V"⟩ : MethodName) (head1 (Jvm.Cond.code (⟨"com/example/fjordwire/fjordwire/model/ServiceCharacters", "<init>", "(CCCCCC)V"⟩ : MethodName) prog_130_method_1_code 7 none :: ws) ({ frames := 1, cells := 1, slots := 6, locals := 12 } : Room)) (fun a U => a = #[(.ref a1), (.int p2), (.int p3), (.int p4), (.int p5), (.int p6), (.int p7)] ∧ Z.Warmed39 U.vm ∧ U.heap = h0) (fun _ _ _ _ _ => True) (fun _ U o U' => ∃ v L, o = .returned v ∧ Qrm1 Z a1 p2 p3 p4 p5 p6 p7  h0 n0 v U'.heap L ∧ FrameEnd U o U' L ({ frames := 1, cells := 1, slots := 6, locals := 12 } : Room).cells ({ frames := 1, cells := 1, slots := 6, locals := 12 } : Room).slots) := by
  refine MetFree.of_bodySF (plainFor_of_name pn_com_example_fjordwire_fjordwire_model_ServiceCharacters) hisR ?_
  intro p e s m args below meth c s₁ Bd hml0 hP hK
  obtain ⟨rfl, hZ, hh⟩ := hP
  have hx := Bd.exec
  have hby := Bd.bytes
  have hml : c.maxLocals = 7 := hml0
  have hown : s.vm.findClass "com/example/fjordwire/fjordwire/model/ServiceCharacters" = some m.cls := findClass_of_methodNamed Bd.named
  have hnm := (name_of_methodNamed Bd.named Bd.method).1
  have X0 : Stand p l e ({ frames := 1, cells := 1, slots := 6, locals := 12 } : Room) s m #[(.ref a1), (.int p2), (.int p3), (.int p4), (.int p5), (.int p6), (.int p7)] below meth c s₁ [] 0 0 := Stand.of_body Bd
  have e0 : s₁.heap = h0 := by rw [← hh, Bd.state]; rfl
  have N0 := Fr.nil n0
  have pre0 : ∀ t, Steps p.tables e below (s₁.setTop (mkF m 0 #[.val (.ref a1), .val (.int p2), .val (.int p3), .val (.int p4), .val (.int p5), .val (.int p6), .val (.int p7)] [])) t → Steps p.tables e below (s₁.setTop (entryFrame m #[(.ref a1), (.int p2), (.int p3), (.int p4), (.int p5), (.int p6), (.int p7)] 7)) t := fun t k => castTop (ef_rm1 m a1 p2 p3 p4 p5 p6 p7) k
  obtain ⟨T1, X1, e1, st1⟩ := initO X0 hx hZ hown (hw _ (List.mem_of_getElem? (i := 6) rfl)) (hw _ (List.mem_of_getElem? (i := 7) rfl)) (hw _ (List.mem_of_getElem? (i := 8) rfl)) e0 (g := (mkF m 1 #[.val (.ref a1), .val (.int p2), .val (.int p3), .val (.int p4), .val (.int p5), .val (.int p6), .val (.int p7)] [(.ref a1)])) rfl (by rw [hml]; rfl) rfl (hb hby d1_1) (by decide) (W := 0) (by show 2 * 0 + _ ≤ _; exact Nat.le_of_eq rfl) (by decide)
  obtain ⟨T2, h2, k2, X2, e2, E2, A2, st2⟩ := newP X1 hx hZ (hw _ (List.mem_of_getElem? (i := 9) rfl)) e1 (g := (mkF m 7 #[.val (.ref a1), .val (.int p2), .val (.int p3), .val (.int p4), .val (.int p5), .val (.int p6), .val (.int p7)] [(.int (6 : Int32)), (.ref a1)])) rfl (hb hby d1_7) rfl (by decide) (cap := 6) (by decide) (by decide) (by decide) (by decide)
  obtain ⟨b2, gz2⟩ : ∃ z, z = h0.size := ⟨_, rfl⟩
  rw [← gz2] at A2 st2
  have ne_a1_b2 : a1 ≠ b2 := Nat.ne_of_lt (Nat.lt_of_lt_of_le E_a1.lt (Nat.le_of_eq gz2.symm))
  have g_b2 : n0 ≤ b2 := Nat.le_trans Z0 (Nat.le_of_eq gz2.symm)
  have sz_b2 : h0.size ≤ b2 := Nat.le_trans (Keep.refl h0 [a1]).1 (Nat.le_of_eq gz2.symm)
  have Z3 : n0 ≤ h2.size := Nat.le_trans Z0 E2.1
  have V_b2 : Arv Z h2 b2 k2 .char (6 : Int32) [(.int (0 : Int32)), (.int (0 : Int32)), (.int (0 : Int32)), (.int (0 : Int32)), (.int (0 : Int32)), (.int (0 : Int32))] (.int (0 : Int32)) := (Arv.new A2 (by decide)).pad (pad_rep [] (.int (0 : Int32)) 6)
  obtain ⟨cl4, Ar4, q4, S4, M4, Hs4, G4⟩ := V_b2
  have hin4 : ¬ ((0 : Int32) < 0 ∨ cl4.slots.size ≤ ((0 : Int32)).toNatClampNeg) := inb_of S4 ⟨by decide, by decide⟩
  obtain ⟨T5, h5, X5, e5, W5, st5⟩ := stC X2 hx hZ e2 Ar4 (j := (0 : Int32)) hin4 (g := (mkF m 12 #[.val (.ref a1), .val (.int p2), .val (.int p3), .val (.int p4), .val (.int p5), .val (.int p6), .val (.int p7)] [(.int p2), (.int (0 : Int32)), (.ref b2), (.ref b2), (.ref a1)])) rfl rfl (hb hby d1_12)
  have Z6 : n0 ≤ h5.size := Nat.le_trans Z3 (Keep.of_wr W5).1
  have V5 := Arv.set Ar4 q4 S4 M4 Hs4 G4 (fits_nar_char _) W5 0 rfl (Nat.le_of_ble_eq_true rfl)
  have N5 := Fr.snoc X5 N0 g_b2
  obtain ⟨cl7, Ar7, q7, S7, M7, Hs7, G7⟩ := V5
  have hin7 : ¬ ((1 : Int32) < 0 ∨ cl7.slots.size ≤ ((1 : Int32)).toNatClampNeg) := inb_of S7 ⟨by decide, by decide⟩
  obtain ⟨T8, h8, X8, e8, W8, st8⟩ := stC X5 hx hZ e5 Ar7 (j := (1 : Int32)) hin7 (g := (mkF m 16 #[.val (.ref a1), .val (.int p2), .val (.int p3), .val (.int p4), .val (.int p5), .val (.int p6), .val (.int p7)] [(.int p3), (.int (1 : Int32)), (.ref b2), (.ref b2), (.ref a1)])) rfl rfl (hb hby d1_16)
  have Z9 : n0 ≤ h8.size := Nat.le_trans Z6 (Keep.of_wr W8).1
  have V8 := Arv.set Ar7 q7 S7 M7 Hs7 G7 (fits_nar_char _) W8 1 rfl (Nat.le_of_ble_eq_true rfl)
  have N8 := Fr.snoc X8 N5 g_b2
  obtain ⟨cl10, Ar10, q10, S10, M10, Hs10, G10⟩ := V8
  have hin10 : ¬ ((2 : Int32) < 0 ∨ cl10.slots.size ≤ ((2 : Int32)).toNatClampNeg) := inb_of S10 ⟨by decide, by decide⟩
  obtain ⟨T11, h11, X11, e11, W11, st11⟩ := stC X8 hx hZ e8 Ar10 (j := (2 : Int32)) hin10 (g := (mkF m 20 #[.val (.ref a1), .val (.int p2), .val (.int p3), .val (.int p4), .val (.int p5), .val (.int p6), .val (.int p7)] [(.int p4), (.int (2 : Int32)), (.ref b2), (.ref b2), (.ref a1)])) rfl rfl (hb hby d1_20)
  have Z12 : n0 ≤ h11.size := Nat.le_trans Z9 (Keep.of_wr W11).1
  have V11 := Arv.set Ar10 q10 S10 M10 Hs10 G10 (fits_nar_char _) W11 2 rfl (Nat.le_of_ble_eq_true rfl)
  have N11 := Fr.snoc X11 N8 g_b2
  obtain ⟨cl13, Ar13, q13, S13, M13, Hs13, G13⟩ := V11
  have hin13 : ¬ ((3 : Int32) < 0 ∨ cl13.slots.size ≤ ((3 : Int32)).toNatClampNeg) := inb_of S13 ⟨by decide, by decide⟩
  obtain ⟨T14, h14, X14, e14, W14, st14⟩ := stC X11 hx hZ e11 Ar13 (j := (3 : Int32)) hin13 (g := (mkF m 25 #[.val (.ref a1), .val (.int p2), .val (.int p3), .val (.int p4), .val (.int p5), .val (.int p6), .val (.int p7)] [(.int p5), (.int (3 : Int32)), (.ref b2), (.ref b2), (.ref a1)])) rfl rfl (hb hby d1_25)
  have Z15 : n0 ≤ h14.size := Nat.le_trans Z12 (Keep.of_wr W14).1
  have V14 := Arv.set Ar13 q13 S13 M13 Hs13 G13 (fits_nar_char _) W14 3 rfl (Nat.le_of_ble_eq_true rfl)
  have N14 := Fr.snoc X14 N11 g_b2
  obtain ⟨cl16, Ar16, q16, S16, M16, Hs16, G16⟩ := V14
  have hin16 : ¬ ((4 : Int32) < 0 ∨ cl16.slots.size ≤ ((4 : Int32)).toNatClampNeg) := inb_of S16 ⟨by decide, by decide⟩
  obtain ⟨T17, h17, X17, e17, W17, st17⟩ := stC X14 hx hZ e14 Ar16 (j := (4 : Int32)) hin16 (g := (mkF m 30 #[.val (.ref a1), .val (.int p2), .val (.int p3), .val (.int p4), .val (.int p5), .val (.int p6), .val (.int p7)] [(.int p6), (.int (4 : Int32)), (.ref b2), (.ref b2), (.ref a1)])) rfl rfl (hb hby d1_30)
  have Z18 : n0 ≤ h17.size := Nat.le_trans Z15 (Keep.of_wr W17).1
  have V17 := Arv.set Ar16 q16 S16 M16 Hs16 G16 (fits_nar_char _) W17 4 rfl (Nat.le_of_ble_eq_true rfl)
  have N17 := Fr.snoc X17 N14 g_b2
  obtain ⟨cl19, Ar19, q19, S19, M19, Hs19, G19⟩ := V17
  have hin19 : ¬ ((5 : Int32) < 0 ∨ cl19.slots.size ≤ ((5 : Int32)).toNatClampNeg) := inb_of S19 ⟨by decide, by decide⟩
  obtain ⟨T20, h20, X20, e20, W20, st20⟩ := stC X17 hx hZ e17 Ar19 (j := (5 : Int32)) hin19 (g := (mkF m 35 #[.val (.ref a1), .val (.int p2), .val (.int p3), .val (.int p4), .val (.int p5), .val (.int p6), .val (.int p7)] [(.int p7), (.int (5 : Int32)), (.ref b2), (.ref b2), (.ref a1)])) rfl rfl (hb hby d1_35)
  have Z21 : n0 ≤ h20.size := Nat.le_trans Z18 (Keep.of_wr W20).1
  have V20 := Arv.set Ar19 q19 S19 M19 Hs19 G19 (fits_nar_char _) W20 5 rfl (Nat.le_of_ble_eq_true rfl)
  have N20 := Fr.snoc X20 N17 g_b2
  have f22 := F_m.ext E2
  have f23 := f22.other W5 (Or.inl ne_a1_b2)
  have f24 := f23.other W8 (Or.inl ne_a1_b2)
  have f25 := f24.other W11 (Or.inl ne_a1_b2)
  have f26 := f25.other W14 (Or.inl ne_a1_b2)
  have f27 := f26.other W17 (Or.inl ne_a1_b2)
  have f28 := f27.other W20 (Or.inl ne_a1_b2)
  have f29 := E_a1.ext E2
  have f30 := f29.wr W5
  have f31 := f30.wr W8
  have f32 := f31.wr W11
  have f33 := f32.wr W14
  have f34 := f33.wr W17
  have f35 := f34.wr W20
  obtain ⟨T36, h36, X36, e36, W36, st36⟩ := putF X20 hx hZ hown (host := "") (Or.inl (hw _ (List.mem_of_getElem? (i := 10) rfl))) Via.refl e20 f28 f35 (Or.inr ⟨(hw _ (List.mem_of_getElem? (i := 11) rfl)), rfl, hnm⟩) (hw _ (List.mem_of_getElem? (i := 1) rfl)) (ty := (.array .char)) (by decide) rfl rfl (g := (mkF m 36 #[.val (.ref a1), .val (.int p2), .val (.int p3), .val (.int p4), .val (.int p5), .val (.int p6), .val (.int p7)] [(.ref b2), (.ref a1)])) rfl rfl (hb hby d1_36)
  have Z37 : n0 ≤ h36.size := Nat.le_trans Z21 (Keep.of_wr W36).1
  have Fw36 := f28.same W36
  have N36 := Fr.snoc X36 N20 g_a1
  have f38 := f35.wr W36
  have f39 := V20.other W36 (Ne.symm ne_a1_b2)
  obtain ⟨fs, hr, hrun, hended, hW, hsame⟩ := X36.leave (v := none) (fun _ => rfl)
  refine ⟨_, _, pre0 _ ?_, hrun, hended, _, _, rfl, ?_, ⟨_, rfl⟩, hW, hsame.mono (by decide) (by decide)⟩
  · show Steps p.tables e below (s₁.setTop (mkF m 0 #[.val (.ref a1), .val (.int p2), .val (.int p3), .val (.int p4), .val (.int p5), .val (.int p6), .val (.int p7)] [])) _
    refine XS.aloadN X0.here hx rfl (hb hby d1_0) rfl rfl ?_
    show Steps p.tables e below (s₁.setTop (mkF m 1 #[.val (.ref a1), .val (.int p2), .val (.int p3), .val (.int p4), .val (.int p5), .val (.int p6), .val (.int p7)] [(.ref a1)])) _
    refine st1 _ ?_
    show Steps p.tables e below (T1.setTop (mkF m 4 #[.val (.ref a1), .val (.int p2), .val (.int p3), .val (.int p4), .val (.int p5), .val (.int p6), .val (.int p7)] [])) _
    refine XS.aloadN X1.here hx rfl (hb hby d1_4) rfl rfl ?_
    show Steps p.tables e below (T1.setTop (mkF m 5 #[.val (.ref a1), .val (.int p2), .val (.int p3), .val (.int p4), .val (.int p5), .val (.int p6), .val (.int p7)] [(.ref a1)])) _
    refine XS.bipush X1.here hx rfl (hb hby d1_5) ?_
    show Steps p.tables e below (T1.setTop (mkF m 7 #[.val (.ref a1), .val (.int p2), .val (.int p3), .val (.int p4), .val (.int p5), .val (.int p6), .val (.int p7)] [(.int (6 : Int32)), (.ref a1)])) _
    refine st2 _ ?_
    show Steps p.tables e below (T2.setTop (mkF m 9 #[.val (.ref a1), .val (.int p2), .val (.int p3), .val (.int p4), .val (.int p5), .val (.int p6), .val (.int p7)] [(.ref b2), (.ref a1)])) _
    refine XS.dup X2.here hx rfl (hb hby d1_9) rfl rfl ?_
    show Steps p.tables e below (T2.setTop (mkF m 10 #[.val (.ref a1), .val (.int p2), .val (.int p3), .val (.int p4), .val (.int p5), .val (.int p6), .val (.int p7)] [(.ref b2), (.ref b2), (.ref a1)])) _
    refine XS.iconst X2.here hx rfl (hb hby d1_10) ?_
    show Steps p.tables e below (T2.setTop (mkF m 11 #[.val (.ref a1), .val (.int p2), .val (.int p3), .val (.int p4), .val (.int p5), .val (.int p6), .val (.int p7)] [(.int (0 : Int32)), (.ref b2), (.ref b2), (.ref a1)])) _
    refine XS.iloadN X2.here hx rfl (hb hby d1_11) rfl ?_
    show Steps p.tables e below (T2.setTop (mkF m 12 #[.val (.ref a1), .val (.int p2), .val (.int p3), .val (.int p4), .val (.int p5), .val (.int p6), .val (.int p7)] [(.int p2), (.int (0 : Int32)), (.ref b2), (.ref b2), (.ref a1)])) _
    refine st5 _ ?_
    show Steps p.tables e below (T5.setTop (mkF m 13 #[.val (.ref a1), .val (.int p2), .val (.int p3), .val (.int p4), .val (.int p5), .val (.int p6), .val (.int p7)] [(.ref b2), (.ref a1)])) _
    refine XS.dup X5.here hx rfl (hb hby d1_13) rfl rfl ?_
    show Steps p.tables e below (T5.setTop (mkF m 14 #[.val (.ref a1), .val (.int p2), .val (.int p3), .val (.int p4), .val (.int p5), .val (.int p6), .val (.int p7)] [(.ref b2), (.ref b2), (.ref a1)])) _
    refine XS.iconst X5.here hx rfl (hb hby d1_14) ?_
    show Steps p.tables e below (T5.setTop (mkF m 15 #[.val (.ref a1), .val (.int p2), .val (.int p3), .val (.int p4), .val (.int p5), .val (.int p6), .val (.int p7)] [(.int (1 : Int32)), (.ref b2), (.ref b2), (.ref a1)])) _
    refine XS.iloadN X5.here hx rfl (hb hby d1_15) rfl ?_
    show Steps p.tables e below (T5.setTop (mkF m 16 #[.val (.ref a1), .val (.int p2), .val (.int p3), .val (.int p4), .val (.int p5), .val (.int p6), .val (.int p7)] [(.int p3), (.int (1 : Int32)), (.ref b2), (.ref b2), (.ref a1)])) _
    refine st8 _ ?_
    show Steps p.tables e below (T8.setTop (mkF m 17 #[.val (.ref a1), .val (.int p2), .val (.int p3), .val (.int p4), .val (.int p5), .val (.int p6), .val (.int p7)] [(.ref b2), (.ref a1)])) _
    refine XS.dup X8.here hx rfl (hb hby d1_17) rfl rfl ?_
    show Steps p.tables e below (T8.setTop (mkF m 18 #[.val (.ref a1), .val (.int p2), .val (.int p3), .val (.int p4), .val (.int p5), .val (.int p6), .val (.int p7)] [(.ref b2), (.ref b2), (.ref a1)])) _
    refine XS.iconst X8.here hx rfl (hb hby d1_18) ?_
    show Steps p.tables e below (T8.setTop (mkF m 19 #[.val (.ref a1), .val (.int p2), .val (.int p3), .val (.int p4), .val (.int p5), .val (.int p6), .val (.int p7)] [(.int (2 : Int32)), (.ref b2), (.ref b2), (.ref a1)])) _
    refine XS.iloadN X8.here hx rfl (hb hby d1_19) rfl ?_
    show Steps p.tables e below (T8.setTop (mkF m 20 #[.val (.ref a1), .val (.int p2), .val (.int p3), .val (.int p4), .val (.int p5), .val (.int p6), .val (.int p7)] [(.int p4), (.int (2 : Int32)), (.ref b2), (.ref b2), (.ref a1)])) _
    refine st11 _ ?_
    show Steps p.tables e below (T11.setTop (mkF m 21 #[.val (.ref a1), .val (.int p2), .val (.int p3), .val (.int p4), .val (.int p5), .val (.int p6), .val (.int p7)] [(.ref b2), (.ref a1)])) _
    refine XS.dup X11.here hx rfl (hb hby d1_21) rfl rfl ?_
    show Steps p.tables e below (T11.setTop (mkF m 22 #[.val (.ref a1), .val (.int p2), .val (.int p3), .val (.int p4), .val (.int p5), .val (.int p6), .val (.int p7)] [(.ref b2), (.ref b2), (.ref a1)])) _
    refine XS.iconst X11.here hx rfl (hb hby d1_22) ?_
    show Steps p.tables e below (T11.setTop (mkF m 23 #[.val (.ref a1), .val (.int p2), .val (.int p3), .val (.int p4), .val (.int p5), .val (.int p6), .val (.int p7)] [(.int (3 : Int32)), (.ref b2), (.ref b2), (.ref a1)])) _
    refine XS.iload X11.here hx rfl (hb hby d1_23) rfl ?_
    show Steps p.tables e below (T11.setTop (mkF m 25 #[.val (.ref a1), .val (.int p2), .val (.int p3), .val (.int p4), .val (.int p5), .val (.int p6), .val (.int p7)] [(.int p5), (.int (3 : Int32)), (.ref b2), (.ref b2), (.ref a1)])) _
    refine st14 _ ?_
    show Steps p.tables e below (T14.setTop (mkF m 26 #[.val (.ref a1), .val (.int p2), .val (.int p3), .val (.int p4), .val (.int p5), .val (.int p6), .val (.int p7)] [(.ref b2), (.ref a1)])) _
    refine XS.dup X14.here hx rfl (hb hby d1_26) rfl rfl ?_
    show Steps p.tables e below (T14.setTop (mkF m 27 #[.val (.ref a1), .val (.int p2), .val (.int p3), .val (.int p4), .val (.int p5), .val (.int p6), .val (.int p7)] [(.ref b2), (.ref b2), (.ref a1)])) _
    refine XS.iconst X14.here hx rfl (hb hby d1_27) ?_
    show Steps p.tables e below (T14.setTop (mkF m 28 #[.val (.ref a1), .val (.int p2), .val (.int p3), .val (.int p4), .val (.int p5), .val (.int p6), .val (.int p7)] [(.int (4 : Int32)), (.ref b2), (.ref b2), (.ref a1)])) _
    refine XS.iload X14.here hx rfl (hb hby d1_28) rfl ?_
    show Steps p.tables e below (T14.setTop (mkF m 30 #[.val (.ref a1), .val (.int p2), .val (.int p3), .val (.int p4), .val (.int p5), .val (.int p6), .val (.int p7)] [(.int p6), (.int (4 : Int32)), (.ref b2), (.ref b2), (.ref a1)])) _
    refine st17 _ ?_
    show Steps p.tables e below (T17.setTop (mkF m 31 #[.val (.ref a1), .val (.int p2), .val (.int p3), .val (.int p4), .val (.int p5), .val (.int p6), .val (.int p7)] [(.ref b2), (.ref a1)])) _
    refine XS.dup X17.here hx rfl (hb hby d1_31) rfl rfl ?_
    show Steps p.tables e below (T17.setTop (mkF m 32 #[.val (.ref a1), .val (.int p2), .val (.int p3), .val (.int p4), .val (.int p5), .val (.int p6), .val (.int p7)] [(.ref b2), (.ref b2), (.ref a1)])) _
    refine XS.iconst X17.here hx rfl (hb hby d1_32) ?_
    show Steps p.tables e below (T17.setTop (mkF m 33 #[.val (.ref a1), .val (.int p2), .val (.int p3), .val (.int p4), .val (.int p5), .val (.int p6), .val (.int p7)] [(.int (5 : Int32)), (.ref b2), (.ref b2), (.ref a1)])) _
    refine XS.iload X17.here hx rfl (hb hby d1_33) rfl ?_
    show Steps p.tables e below (T17.setTop (mkF m 35 #[.val (.ref a1), .val (.int p2), .val (.int p3), .val (.int p4), .val (.int p5), .val (.int p6), .val (.int p7)] [(.int p7), (.int (5 : Int32)), (.ref b2), (.ref b2), (.ref a1)])) _
    refine st20 _ ?_
    show Steps p.tables e below (T20.setTop (mkF m 36 #[.val (.ref a1), .val (.int p2), .val (.int p3), .val (.int p4), .val (.int p5), .val (.int p6), .val (.int p7)] [(.ref b2), (.ref a1)])) _
    refine st36 _ ?_
    show Steps p.tables e below (T36.setTop (mkF m 39 #[.val (.ref a1), .val (.int p2), .val (.int p3), .val (.int p4), .val (.int p5), .val (.int p6), .val (.int p7)] [])) _
    exact X36.returnOut hx Bd.returns (hb hby d1_39) hr
  · show Qrm1 Z a1 p2 p3 p4 p5 p6 p7  h0 n0 _ T36.heap _
    rw [e36]
    exact ⟨b2, k2, rfl, N36, (((((((((Keep.refl h0 [a1]).ext E2).wr W5 (Or.inr sz_b2)).wr W8 (Or.inr sz_b2)).wr W11 (Or.inr sz_b2)).wr W14 (Or.inr sz_b2)).wr W17 (Or.inr sz_b2)).wr W20 (Or.inr sz_b2)).wr W36 (Or.inl (List.mem_of_getElem? (i := 0) rfl))), g_b2, f38, Fw36, f39⟩
def own_syn (p2 x0 x1 x3 x5 : Int32) : Int32 := (if x0 = p2 then (1 : Int32) else (if x1 = p2 then (1 : Int32) else (if x3 = p2 then (1 : Int32) else (if x5 = p2 then (1 : Int32) else (0 : Int32)))))
theorem d3_0 : decode prog_130_method_10_code 0 = .ok (.getstatic 18, 3) := by decide +kernel
theorem d3_3 : decode prog_130_method_10_code 3 = .ok (.astore_n 2, 1) := by decide +kernel
theorem d3_4 : decode prog_130_method_10_code 4 = .ok (.aload_n 2, 1) := by decide +kernel
theorem d3_5 : decode prog_130_method_10_code 5 = .ok (.arraylength, 1) := by decide +kernel
theorem d3_6 : decode prog_130_method_10_code 6 = .ok (.istore_n 3, 1) := by decide +kernel
theorem d3_7 : decode prog_130_method_10_code 7 = .ok (.iconst 0, 1) := by decide +kernel
theorem d3_8 : decode prog_130_method_10_code 8 = .ok (.istore 4, 2) := by decide +kernel
theorem d3_10 : decode prog_130_method_10_code 10 = .ok (.iload 4, 2) := by decide +kernel
theorem d3_12 : decode prog_130_method_10_code 12 = .ok (.iload_n 3, 1) := by decide +kernel
theorem d3_13 : decode prog_130_method_10_code 13 = .ok (.if_icmp .ge 28, 3) := by decide +kernel
theorem d3_16 : decode prog_130_method_10_code 16 = .ok (.aload_n 2, 1) := by decide +kernel
theorem d3_17 : decode prog_130_method_10_code 17 = .ok (.iload 4, 2) := by decide +kernel
theorem d3_19 : decode prog_130_method_10_code 19 = .ok (.iaload, 1) := by decide +kernel
theorem d3_20 : decode prog_130_method_10_code 20 = .ok (.istore 5, 2) := by decide +kernel
theorem d3_22 : decode prog_130_method_10_code 22 = .ok (.aload_n 0, 1) := by decide +kernel
theorem d3_23 : decode prog_130_method_10_code 23 = .ok (.getfield 7, 3) := by decide +kernel
theorem d3_26 : decode prog_130_method_10_code 26 = .ok (.iload 5, 2) := by decide +kernel
theorem d3_28 : decode prog_130_method_10_code 28 = .ok (.caload, 1) := by decide +kernel
theorem d3_29 : decode prog_130_method_10_code 29 = .ok (.iload_n 1, 1) := by decide +kernel
theorem d3_30 : decode prog_130_method_10_code 30 = .ok (.if_icmp .ne 5, 3) := by decide +kernel
theorem d3_33 : decode prog_130_method_10_code 33 = .ok (.iconst 1, 1) := by decide +kernel
theorem d3_34 : decode prog_130_method_10_code 34 = .ok (.ireturn, 1) := by decide +kernel
theorem d3_35 : decode prog_130_method_10_code 35 = .ok (.iinc 4 1, 3) := by decide +kernel
theorem d3_38 : decode prog_130_method_10_code 38 = .ok (.goto (-28), 3) := by decide +kernel
theorem d3_41 : decode prog_130_method_10_code 41 = .ok (.iconst 0, 1) := by decide +kernel
theorem d3_42 : decode prog_130_method_10_code 42 = .ok (.ireturn, 1) := by decide +kernel
theorem ef_rm3 (m : MethodId) (x0 : Addr) (x1 : Int32) : entryFrame m #[(.ref x0), (.int x1)] 6 = mkF m 0 #[.val (.ref x0), .val (.int x1), .unset, .unset, .unset, .unset] [] := by first | (simp [entryFrame, mkF, argsToLocals, Value.category]; done) | rfl
def Qrm3 (Z : State) (a1 : Addr) (p2 : Int32) (b : Addr) (kA : ClassId) (x0 x1 x2 x3 x4 x5 : Int32) (sp : Addr) (kS : ClassId) (h0 : Heap) (n0 : Nat) (v : Option Value) (h : Heap) (L : List Loc) : Prop := v = some (.int (own_syn p2 x0 x1 x3 x5)) ∧ Fr n0 L ∧ h = h0
set_option maxRecDepth 65536 in
set_option maxHeartbeats 40000000 in
theorem rm3 (l : Launch) (Z : State) (a0 : Array Value) (hw : ∀ d ∈ tables_1, d.before a0 Z = true) (ws : List Jvm.Cond) (a1 : Addr) (p2 : Int32) (b : Addr) (kA : ClassId) (x0 x1 x2 x3 x4 x5 : Int32) (sp : Addr) (kS : ClassId) (h0 : Heap) (n0 : Nat) (Z0 : n0 ≤ h0.size) (F_m : Fld Z h0 a1 "com/example/fjordwire/fjordwire/model/ServiceCharacters" "m_characters" "[C" (.ref b)) (V_b : Arv Z h0 b kA .char (6 : Int32) [(.int x0), (.int x1), (.int x2), (.int x3), (.int x4), (.int x5)] (.int (0 : Int32))) (S_sp : Sta Z h0 "com/example/fjordwire/fjordwire/model/ServiceCharacters" "SYNTAX_POSITIONS" "[I" (.ref sp)) (V_sp : Arv Z h0 sp kS .int (4 : Int32) [(.int (0 : Int32)), (.int (1 : Int32)), (.int (3 : Int32)), (.int (5 : Int32))] (.int (0 : Int32))) :
    MetFree l (⟨"com/example/fjordwire/fjordwire/model/ServiceCharacters", "isSyntaxCharacter", "(C)Z"⟩ : MethodName) (head1 (Jvm.Cond.code (⟨"com/example/fjordwire/fjordwire/model/ServiceCharacters", "isSyntaxCharacter", "(C)Z"⟩ : MethodName) prog_130_method_10_code 6 (some .boolean) :: ws) ({ frames := 0, cells := 0, slots := 0, locals := 0 } : Room)) (fun a U => a = #[(.ref a1), (.int p2)] ∧ Z.Warmed39 U.vm ∧ U.heap = h0) (fun _ _ _ _ _ => True) (fun _ U o U' => ∃ v L, o = .returned v ∧ Qrm3 Z a1 p2 b kA x0 x1 x2 x3 x4 x5 sp kS h0 n0 v U'.heap L ∧ FrameEnd U o U' L ({ frames := 0, cells := 0, slots := 0, locals := 0 } : Room).cells ({ frames := 0, cells := 0, slots := 0, locals := 0 } : Room).slots) := by
  refine MetFree.of_bodySF (plainFor_of_name pn_com_example_fjordwire_fjordwire_model_ServiceCharacters) hisR ?_
  intro p e s m args below meth c s₁ Bd hml0 hP hK
  obtain ⟨rfl, hZ, hh⟩ := hP
  have hx := Bd.exec
  have hby := Bd.bytes
  have hml : c.maxLocals = 6 := hml0
  have hown : s.vm.findClass "com/example/fjordwire/fjordwire/model/ServiceCharacters" = some m.cls := findClass_of_methodNamed Bd.named
  have hnm := (name_of_methodNamed Bd.named Bd.method).1
  have X0 : Stand p l e ({ frames := 0, cells := 0, slots := 0, locals := 0 } : Room) s m #[(.ref a1), (.int p2)] below meth c s₁ [] 0 0 := Stand.of_body Bd
  have e0 : s₁.heap = h0 := by rw [← hh, Bd.state]; rfl
  have N0 := Fr.nil n0
  have pre0 : ∀ t, Steps p.tables e below (s₁.setTop (mkF m 0 #[.val (.ref a1), .val (.int p2), .unset, .unset, .unset, .unset] [])) t → Steps p.tables e below (s₁.setTop (entryFrame m #[(.ref a1), (.int p2)] 6)) t := fun t k => castTop (ef_rm3 m a1 p2) k
  obtain ⟨cl, Ar, -, S_, M_, Hs, -⟩ := V_b
  obtain ⟨cs, As, -, Ss, Ms, Hss, -⟩ := V_sp
  have hic0 : ¬ ((0 : Int32) < 0 ∨ cl.slots.size ≤ ((0 : Int32)).toNatClampNeg) := inb_of S_ ⟨by decide, by decide⟩
  have hac0 : cl.slots[((0 : Int32)).toNatClampNeg]? = some (.int x0) := Has.at Hs hic0 rfl
  have hic1 : ¬ ((1 : Int32) < 0 ∨ cl.slots.size ≤ ((1 : Int32)).toNatClampNeg) := inb_of S_ ⟨by decide, by decide⟩
  have hac1 : cl.slots[((1 : Int32)).toNatClampNeg]? = some (.int x1) := Has.at Hs hic1 rfl
  have hic2 : ¬ ((2 : Int32) < 0 ∨ cl.slots.size ≤ ((2 : Int32)).toNatClampNeg) := inb_of S_ ⟨by decide, by decide⟩
  have hac2 : cl.slots[((2 : Int32)).toNatClampNeg]? = some (.int x2) := Has.at Hs hic2 rfl
  have hic3 : ¬ ((3 : Int32) < 0 ∨ cl.slots.size ≤ ((3 : Int32)).toNatClampNeg) := inb_of S_ ⟨by decide, by decide⟩
  have hac3 : cl.slots[((3 : Int32)).toNatClampNeg]? = some (.int x3) := Has.at Hs hic3 rfl
  have hic4 : ¬ ((4 : Int32) < 0 ∨ cl.slots.size ≤ ((4 : Int32)).toNatClampNeg) := inb_of S_ ⟨by decide, by decide⟩
  have hac4 : cl.slots[((4 : Int32)).toNatClampNeg]? = some (.int x4) := Has.at Hs hic4 rfl
  have hic5 : ¬ ((5 : Int32) < 0 ∨ cl.slots.size ≤ ((5 : Int32)).toNatClampNeg) := inb_of S_ ⟨by decide, by decide⟩
  have hac5 : cl.slots[((5 : Int32)).toNatClampNeg]? = some (.int x5) := Has.at Hs hic5 rfl
  have his0 : ¬ ((0 : Int32) < 0 ∨ cs.slots.size ≤ ((0 : Int32)).toNatClampNeg) := inb_of Ss ⟨by decide, by decide⟩
  have has0 : cs.slots[((0 : Int32)).toNatClampNeg]? = some (.int (0 : Int32)) := Has.at Hss his0 rfl
  have his1 : ¬ ((1 : Int32) < 0 ∨ cs.slots.size ≤ ((1 : Int32)).toNatClampNeg) := inb_of Ss ⟨by decide, by decide⟩
  have has1 : cs.slots[((1 : Int32)).toNatClampNeg]? = some (.int (1 : Int32)) := Has.at Hss his1 rfl
  have his2 : ¬ ((2 : Int32) < 0 ∨ cs.slots.size ≤ ((2 : Int32)).toNatClampNeg) := inb_of Ss ⟨by decide, by decide⟩
  have has2 : cs.slots[((2 : Int32)).toNatClampNeg]? = some (.int (3 : Int32)) := Has.at Hss his2 rfl
  have his3 : ¬ ((3 : Int32) < 0 ∨ cs.slots.size ≤ ((3 : Int32)).toNatClampNeg) := inb_of Ss ⟨by decide, by decide⟩
  have has3 : cs.slots[((3 : Int32)).toNatClampNeg]? = some (.int (5 : Int32)) := Has.at Hss his3 rfl
  obtain ⟨T1, X1, e1, st1⟩ := getS2 X0 hx hZ hown (host := "") (Or.inl (hw _ (List.mem_of_getElem? (i := 17) rfl))) Via.refl e0 S_sp (g := (mkF m 0 #[.val (.ref a1), .val (.int p2), .unset, .unset, .unset, .unset] [])) rfl (hb hby d3_0)
  obtain ⟨T2, X2, e2, st2⟩ := getF X1 hx hZ hown (host := "") (Or.inl (hw _ (List.mem_of_getElem? (i := 10) rfl))) Via.refl e1 F_m (g := (mkF m 23 #[.val (.ref a1), .val (.int p2), .val (.ref sp), .val (.int (4 : Int32)), .val (.int (0 : Int32)), .val (.int (0 : Int32))] [(.ref a1)])) rfl rfl (hb hby d3_23)
  by_cases ht0 : x0 = p2
  · obtain ⟨fs, hr, hrun, hended, hW, hsame⟩ := X2.leave (v := some (.int (1 : Int32))) (fun h => by rw [Bd.returns] at h; cases h)
    refine ⟨_, _, pre0 _ ?_, hrun, hended, _, _, rfl, ?_, ⟨_, rfl⟩, hW, hsame.mono (by decide) (by decide)⟩
    · show Steps p.tables e below (s₁.setTop (mkF m 0 #[.val (.ref a1), .val (.int p2), .unset, .unset, .unset, .unset] [])) _
      refine st1 _ ?_
      show Steps p.tables e below (T1.setTop (mkF m 3 #[.val (.ref a1), .val (.int p2), .unset, .unset, .unset, .unset] [(.ref sp)])) _
      refine XS.astoreN X1.here hx rfl (hb hby d3_3) rfl rfl (l' := #[.val (.ref a1), .val (.int p2), .val (.ref sp), .unset, .unset, .unset]) rfl ?_
      show Steps p.tables e below (T1.setTop (mkF m 4 #[.val (.ref a1), .val (.int p2), .val (.ref sp), .unset, .unset, .unset] [])) _
      refine XS.aloadN X1.here hx rfl (hb hby d3_4) rfl rfl ?_
      show Steps p.tables e below (T1.setTop (mkF m 5 #[.val (.ref a1), .val (.int p2), .val (.ref sp), .unset, .unset, .unset] [(.ref sp)])) _
      refine X1.arraylength hx (cell := cs) (by rw [e1]; exact As.1) (State.isArrayOf_alike hZ.alike As.2.1) (g := (mkF m 5 #[.val (.ref a1), .val (.int p2), .val (.ref sp), .unset, .unset, .unset] [(.ref sp)])) rfl (rest := []) rfl (hb hby d3_5) _ ?_
      rw [len_of Ss Ms]
      show Steps p.tables e below (T1.setTop (mkF m 6 #[.val (.ref a1), .val (.int p2), .val (.ref sp), .unset, .unset, .unset] [(.int (4 : Int32))])) _
      refine XS.istoreN X1.here hx rfl (hb hby d3_6) rfl (l' := #[.val (.ref a1), .val (.int p2), .val (.ref sp), .val (.int (4 : Int32)), .unset, .unset]) rfl ?_
      show Steps p.tables e below (T1.setTop (mkF m 7 #[.val (.ref a1), .val (.int p2), .val (.ref sp), .val (.int (4 : Int32)), .unset, .unset] [])) _
      refine XS.iconst X1.here hx rfl (hb hby d3_7) ?_
      show Steps p.tables e below (T1.setTop (mkF m 8 #[.val (.ref a1), .val (.int p2), .val (.ref sp), .val (.int (4 : Int32)), .unset, .unset] [(.int (0 : Int32))])) _
      refine XS.istore X1.here hx rfl (hb hby d3_8) rfl (l' := #[.val (.ref a1), .val (.int p2), .val (.ref sp), .val (.int (4 : Int32)), .val (.int (0 : Int32)), .unset]) rfl ?_
      show Steps p.tables e below (T1.setTop (mkF m 10 #[.val (.ref a1), .val (.int p2), .val (.ref sp), .val (.int (4 : Int32)), .val (.int (0 : Int32)), .unset] [])) _
      refine XS.iload X1.here hx rfl (hb hby d3_10) rfl ?_
      show Steps p.tables e below (T1.setTop (mkF m 12 #[.val (.ref a1), .val (.int p2), .val (.ref sp), .val (.int (4 : Int32)), .val (.int (0 : Int32)), .unset] [(.int (0 : Int32))])) _
      refine XS.iloadN X1.here hx rfl (hb hby d3_12) rfl ?_
      show Steps p.tables e below (T1.setTop (mkF m 13 #[.val (.ref a1), .val (.int p2), .val (.ref sp), .val (.int (4 : Int32)), .val (.int (0 : Int32)), .unset] [(.int (4 : Int32)), (.int (0 : Int32))])) _
      refine XS.icmpNo X1.here hx rfl (hb hby d3_13) rfl (tlt (by decide : (0 : Int32) < (4 : Int32))).2.1 ?_
      show Steps p.tables e below (T1.setTop (mkF m 16 #[.val (.ref a1), .val (.int p2), .val (.ref sp), .val (.int (4 : Int32)), .val (.int (0 : Int32)), .unset] [])) _
      refine XS.aloadN X1.here hx rfl (hb hby d3_16) rfl rfl ?_
      show Steps p.tables e below (T1.setTop (mkF m 17 #[.val (.ref a1), .val (.int p2), .val (.ref sp), .val (.int (4 : Int32)), .val (.int (0 : Int32)), .unset] [(.ref sp)])) _
      refine XS.iload X1.here hx rfl (hb hby d3_17) rfl ?_
      show Steps p.tables e below (T1.setTop (mkF m 19 #[.val (.ref a1), .val (.int p2), .val (.ref sp), .val (.int (4 : Int32)), .val (.int (0 : Int32)), .unset] [(.int (0 : Int32)), (.ref sp)])) _
      refine X1.iaload hx (j := (0 : Int32)) (v := (.int (0 : Int32))) (by rw [e1]; exact As.1) (State.isArrayOf_alike hZ.alike As.2.1) As.2.2 his0 has0 (g := (mkF m 19 #[.val (.ref a1), .val (.int p2), .val (.ref sp), .val (.int (4 : Int32)), .val (.int (0 : Int32)), .unset] [(.int (0 : Int32)), (.ref sp)])) rfl rfl (hb hby d3_19) _ ?_
      show Steps p.tables e below (T1.setTop (mkF m 20 #[.val (.ref a1), .val (.int p2), .val (.ref sp), .val (.int (4 : Int32)), .val (.int (0 : Int32)), .unset] [(.int (0 : Int32))])) _
      refine XS.istore X1.here hx rfl (hb hby d3_20) rfl (l' := #[.val (.ref a1), .val (.int p2), .val (.ref sp), .val (.int (4 : Int32)), .val (.int (0 : Int32)), .val (.int (0 : Int32))]) rfl ?_
      show Steps p.tables e below (T1.setTop (mkF m 22 #[.val (.ref a1), .val (.int p2), .val (.ref sp), .val (.int (4 : Int32)), .val (.int (0 : Int32)), .val (.int (0 : Int32))] [])) _
      refine XS.aloadN X1.here hx rfl (hb hby d3_22) rfl rfl ?_
      show Steps p.tables e below (T1.setTop (mkF m 23 #[.val (.ref a1), .val (.int p2), .val (.ref sp), .val (.int (4 : Int32)), .val (.int (0 : Int32)), .val (.int (0 : Int32))] [(.ref a1)])) _
      refine st2 _ ?_
      show Steps p.tables e below (T2.setTop (mkF m 26 #[.val (.ref a1), .val (.int p2), .val (.ref sp), .val (.int (4 : Int32)), .val (.int (0 : Int32)), .val (.int (0 : Int32))] [(.ref b)])) _
      refine XS.iload X2.here hx rfl (hb hby d3_26) rfl ?_
      show Steps p.tables e below (T2.setTop (mkF m 28 #[.val (.ref a1), .val (.int p2), .val (.ref sp), .val (.int (4 : Int32)), .val (.int (0 : Int32)), .val (.int (0 : Int32))] [(.int (0 : Int32)), (.ref b)])) _
      refine X2.caload hx (j := (0 : Int32)) (v := (.int x0)) (by rw [e2]; exact Ar.1) (State.isArrayOf_alike hZ.alike Ar.2.1) Ar.2.2 hic0 hac0 (g := (mkF m 28 #[.val (.ref a1), .val (.int p2), .val (.ref sp), .val (.int (4 : Int32)), .val (.int (0 : Int32)), .val (.int (0 : Int32))] [(.int (0 : Int32)), (.ref b)])) rfl rfl (hb hby d3_28) _ ?_
      show Steps p.tables e below (T2.setTop (mkF m 29 #[.val (.ref a1), .val (.int p2), .val (.ref sp), .val (.int (4 : Int32)), .val (.int (0 : Int32)), .val (.int (0 : Int32))] [(.int x0)])) _
      refine XS.iloadN X2.here hx rfl (hb hby d3_29) rfl ?_
      show Steps p.tables e below (T2.setTop (mkF m 30 #[.val (.ref a1), .val (.int p2), .val (.ref sp), .val (.int (4 : Int32)), .val (.int (0 : Int32)), .val (.int (0 : Int32))] [(.int p2), (.int x0)])) _
      refine XS.icmpNo X2.here hx rfl (hb hby d3_30) rfl (teq (ht0 : x0 = p2)).2 ?_
      show Steps p.tables e below (T2.setTop (mkF m 33 #[.val (.ref a1), .val (.int p2), .val (.ref sp), .val (.int (4 : Int32)), .val (.int (0 : Int32)), .val (.int (0 : Int32))] [])) _
      refine XS.iconst X2.here hx rfl (hb hby d3_33) ?_
      show Steps p.tables e below (T2.setTop (mkF m 34 #[.val (.ref a1), .val (.int p2), .val (.ref sp), .val (.int (4 : Int32)), .val (.int (0 : Int32)), .val (.int (0 : Int32))] [(.int (1 : Int32))])) _
      exact retN X2 hx (t := .boolean) Bd.returns (by simp) (hb hby d3_34) hr
    · show Qrm3 Z a1 p2 b kA x0 x1 x2 x3 x4 x5 sp kS h0 n0 _ T2.heap _
      rw [e2]
      exact ⟨by rw [own_syn, if_pos ht0], N0, rfl⟩
  · obtain ⟨T3, X3, e3, st3⟩ := getF X2 hx hZ hown (host := "") (Or.inl (hw _ (List.mem_of_getElem? (i := 10) rfl))) Via.refl e2 F_m (g := (mkF m 23 #[.val (.ref a1), .val (.int p2), .val (.ref sp), .val (.int (4 : Int32)), .val (.int (1 : Int32)), .val (.int (1 : Int32))] [(.ref a1)])) rfl rfl (hb hby d3_23)
    by_cases ht1 : x1 = p2
    · obtain ⟨fs, hr, hrun, hended, hW, hsame⟩ := X3.leave (v := some (.int (1 : Int32))) (fun h => by rw [Bd.returns] at h; cases h)
      refine ⟨_, _, pre0 _ ?_, hrun, hended, _, _, rfl, ?_, ⟨_, rfl⟩, hW, hsame.mono (by decide) (by decide)⟩
      · show Steps p.tables e below (s₁.setTop (mkF m 0 #[.val (.ref a1), .val (.int p2), .unset, .unset, .unset, .unset] [])) _
        refine st1 _ ?_
        show Steps p.tables e below (T1.setTop (mkF m 3 #[.val (.ref a1), .val (.int p2), .unset, .unset, .unset, .unset] [(.ref sp)])) _
        refine XS.astoreN X1.here hx rfl (hb hby d3_3) rfl rfl (l' := #[.val (.ref a1), .val (.int p2), .val (.ref sp), .unset, .unset, .unset]) rfl ?_
        show Steps p.tables e below (T1.setTop (mkF m 4 #[.val (.ref a1), .val (.int p2), .val (.ref sp), .unset, .unset, .unset] [])) _
        refine XS.aloadN X1.here hx rfl (hb hby d3_4) rfl rfl ?_
        show Steps p.tables e below (T1.setTop (mkF m 5 #[.val (.ref a1), .val (.int p2), .val (.ref sp), .unset, .unset, .unset] [(.ref sp)])) _
        refine X1.arraylength hx (cell := cs) (by rw [e1]; exact As.1) (State.isArrayOf_alike hZ.alike As.2.1) (g := (mkF m 5 #[.val (.ref a1), .val (.int p2), .val (.ref sp), .unset, .unset, .unset] [(.ref sp)])) rfl (rest := []) rfl (hb hby d3_5) _ ?_
        rw [len_of Ss Ms]
        show Steps p.tables e below (T1.setTop (mkF m 6 #[.val (.ref a1), .val (.int p2), .val (.ref sp), .unset, .unset, .unset] [(.int (4 : Int32))])) _
        refine XS.istoreN X1.here hx rfl (hb hby d3_6) rfl (l' := #[.val (.ref a1), .val (.int p2), .val (.ref sp), .val (.int (4 : Int32)), .unset, .unset]) rfl ?_
        show Steps p.tables e below (T1.setTop (mkF m 7 #[.val (.ref a1), .val (.int p2), .val (.ref sp), .val (.int (4 : Int32)), .unset, .unset] [])) _
        refine XS.iconst X1.here hx rfl (hb hby d3_7) ?_
        show Steps p.tables e below (T1.setTop (mkF m 8 #[.val (.ref a1), .val (.int p2), .val (.ref sp), .val (.int (4 : Int32)), .unset, .unset] [(.int (0 : Int32))])) _
        refine XS.istore X1.here hx rfl (hb hby d3_8) rfl (l' := #[.val (.ref a1), .val (.int p2), .val (.ref sp), .val (.int (4 : Int32)), .val (.int (0 : Int32)), .unset]) rfl ?_
        show Steps p.tables e below (T1.setTop (mkF m 10 #[.val (.ref a1), .val (.int p2), .val (.ref sp), .val (.int (4 : Int32)), .val (.int (0 : Int32)), .unset] [])) _
        refine XS.iload X1.here hx rfl (hb hby d3_10) rfl ?_
        show Steps p.tables e below (T1.setTop (mkF m 12 #[.val (.ref a1), .val (.int p2), .val (.ref sp), .val (.int (4 : Int32)), .val (.int (0 : Int32)), .unset] [(.int (0 : Int32))])) _
        refine XS.iloadN X1.here hx rfl (hb hby d3_12) rfl ?_
        show Steps p.tables e below (T1.setTop (mkF m 13 #[.val (.ref a1), .val (.int p2), .val (.ref sp), .val (.int (4 : Int32)), .val (.int (0 : Int32)), .unset] [(.int (4 : Int32)), (.int (0 : Int32))])) _
        refine XS.icmpNo X1.here hx rfl (hb hby d3_13) rfl (tlt (by decide : (0 : Int32) < (4 : Int32))).2.1 ?_
        show Steps p.tables e below (T1.setTop (mkF m 16 #[.val (.ref a1), .val (.int p2), .val (.ref sp), .val (.int (4 : Int32)), .val (.int (0 : Int32)), .unset] [])) _
        refine XS.aloadN X1.here hx rfl (hb hby d3_16) rfl rfl ?_
        show Steps p.tables e below (T1.setTop (mkF m 17 #[.val (.ref a1), .val (.int p2), .val (.ref sp), .val (.int (4 : Int32)), .val (.int (0 : Int32)), .unset] [(.ref sp)])) _
        refine XS.iload X1.here hx rfl (hb hby d3_17) rfl ?_
        show Steps p.tables e below (T1.setTop (mkF m 19 #[.val (.ref a1), .val (.int p2), .val (.ref sp), .val (.int (4 : Int32)), .val (.int (0 : Int32)), .unset] [(.int (0 : Int32)), (.ref sp)])) _
        refine X1.iaload hx (j := (0 : Int32)) (v := (.int (0 : Int32))) (by rw [e1]; exact As.1) (State.isArrayOf_alike hZ.alike As.2.1) As.2.2 his0 has0 (g := (mkF m 19 #[.val (.ref a1), .val (.int p2), .val (.ref sp), .val (.int (4 : Int32)), .val (.int (0 : Int32)), .unset] [(.int (0 : Int32)), (.ref sp)])) rfl rfl (hb hby d3_19) _ ?_
        show Steps p.tables e below (T1.setTop (mkF m 20 #[.val (.ref a1), .val (.int p2), .val (.ref sp), .val (.int (4 : Int32)), .val (.int (0 : Int32)), .unset] [(.int (0 : Int32))])) _
        refine XS.istore X1.here hx rfl (hb hby d3_20) rfl (l' := #[.val (.ref a1), .val (.int p2), .val (.ref sp), .val (.int (4 : Int32)), .val (.int (0 : Int32)), .val (.int (0 : Int32))]) rfl ?_
        show Steps p.tables e below (T1.setTop (mkF m 22 #[.val (.ref a1), .val (.int p2), .val (.ref sp), .val (.int (4 : Int32)), .val (.int (0 : Int32)), .val (.int (0 : Int32))] [])) _
        refine XS.aloadN X1.here hx rfl (hb hby d3_22) rfl rfl ?_
        show Steps p.tables e below (T1.setTop (mkF m 23 #[.val (.ref a1), .val (.int p2), .val (.ref sp), .val (.int (4 : Int32)), .val (.int (0 : Int32)), .val (.int (0 : Int32))] [(.ref a1)])) _
        refine st2 _ ?_
        show Steps p.tables e below (T2.setTop (mkF m 26 #[.val (.ref a1), .val (.int p2), .val (.ref sp), .val (.int (4 : Int32)), .val (.int (0 : Int32)), .val (.int (0 : Int32))] [(.ref b)])) _
        refine XS.iload X2.here hx rfl (hb hby d3_26) rfl ?_
        show Steps p.tables e below (T2.setTop (mkF m 28 #[.val (.ref a1), .val (.int p2), .val (.ref sp), .val (.int (4 : Int32)), .val (.int (0 : Int32)), .val (.int (0 : Int32))] [(.int (0 : Int32)), (.ref b)])) _
        refine X2.caload hx (j := (0 : Int32)) (v := (.int x0)) (by rw [e2]; exact Ar.1) (State.isArrayOf_alike hZ.alike Ar.2.1) Ar.2.2 hic0 hac0 (g := (mkF m 28 #[.val (.ref a1), .val (.int p2), .val (.ref sp), .val (.int (4 : Int32)), .val (.int (0 : Int32)), .val (.int (0 : Int32))] [(.int (0 : Int32)), (.ref b)])) rfl rfl (hb hby d3_28) _ ?_
        show Steps p.tables e below (T2.setTop (mkF m 29 #[.val (.ref a1), .val (.int p2), .val (.ref sp), .val (.int (4 : Int32)), .val (.int (0 : Int32)), .val (.int (0 : Int32))] [(.int x0)])) _
        refine XS.iloadN X2.here hx rfl (hb hby d3_29) rfl ?_
        show Steps p.tables e below (T2.setTop (mkF m 30 #[.val (.ref a1), .val (.int p2), .val (.ref sp), .val (.int (4 : Int32)), .val (.int (0 : Int32)), .val (.int (0 : Int32))] [(.int p2), (.int x0)])) _
        refine XS.icmpYes X2.here hx rfl (pc0 := 30) (pc' := 35) rfl (hb hby d3_30) rfl (feq (ht0 : ¬ (x0 = p2))).2 (by decide) (by decide) ?_
        show Steps p.tables e below (T2.setTop (mkF m 35 #[.val (.ref a1), .val (.int p2), .val (.ref sp), .val (.int (4 : Int32)), .val (.int (0 : Int32)), .val (.int (0 : Int32))] [])) _
        refine XS.iinc X2.here hx rfl (hb hby d3_35) rfl (l' := #[.val (.ref a1), .val (.int p2), .val (.ref sp), .val (.int (4 : Int32)), .val (.int (1 : Int32)), .val (.int (0 : Int32))]) rfl ?_
        show Steps p.tables e below (T2.setTop (mkF m 38 #[.val (.ref a1), .val (.int p2), .val (.ref sp), .val (.int (4 : Int32)), .val (.int (1 : Int32)), .val (.int (0 : Int32))] [])) _
        refine XS.goto X2.here hx rfl (pc0 := 38) (pc' := 10) rfl (hb hby d3_38) (by decide) (by decide) ?_
        show Steps p.tables e below (T2.setTop (mkF m 10 #[.val (.ref a1), .val (.int p2), .val (.ref sp), .val (.int (4 : Int32)), .val (.int (1 : Int32)), .val (.int (0 : Int32))] [])) _
        refine XS.iload X2.here hx rfl (hb hby d3_10) rfl ?_
        show Steps p.tables e below (T2.setTop (mkF m 12 #[.val (.ref a1), .val (.int p2), .val (.ref sp), .val (.int (4 : Int32)), .val (.int (1 : Int32)), .val (.int (0 : Int32))] [(.int (1 : Int32))])) _
        refine XS.iloadN X2.here hx rfl (hb hby d3_12) rfl ?_
        show Steps p.tables e below (T2.setTop (mkF m 13 #[.val (.ref a1), .val (.int p2), .val (.ref sp), .val (.int (4 : Int32)), .val (.int (1 : Int32)), .val (.int (0 : Int32))] [(.int (4 : Int32)), (.int (1 : Int32))])) _
        refine XS.icmpNo X2.here hx rfl (hb hby d3_13) rfl (tlt (by decide : (1 : Int32) < (4 : Int32))).2.1 ?_
        show Steps p.tables e below (T2.setTop (mkF m 16 #[.val (.ref a1), .val (.int p2), .val (.ref sp), .val (.int (4 : Int32)), .val (.int (1 : Int32)), .val (.int (0 : Int32))] [])) _
        refine XS.aloadN X2.here hx rfl (hb hby d3_16) rfl rfl ?_
        show Steps p.tables e below (T2.setTop (mkF m 17 #[.val (.ref a1), .val (.int p2), .val (.ref sp), .val (.int (4 : Int32)), .val (.int (1 : Int32)), .val (.int (0 : Int32))] [(.ref sp)])) _
        refine XS.iload X2.here hx rfl (hb hby d3_17) rfl ?_
        show Steps p.tables e below (T2.setTop (mkF m 19 #[.val (.ref a1), .val (.int p2), .val (.ref sp), .val (.int (4 : Int32)), .val (.int (1 : Int32)), .val (.int (0 : Int32))] [(.int (1 : Int32)), (.ref sp)])) _
        refine X2.iaload hx (j := (1 : Int32)) (v := (.int (1 : Int32))) (by rw [e2]; exact As.1) (State.isArrayOf_alike hZ.alike As.2.1) As.2.2 his1 has1 (g := (mkF m 19 #[.val (.ref a1), .val (.int p2), .val (.ref sp), .val (.int (4 : Int32)), .val (.int (1 : Int32)), .val (.int (0 : Int32))] [(.int (1 : Int32)), (.ref sp)])) rfl rfl (hb hby d3_19) _ ?_
        show Steps p.tables e below (T2.setTop (mkF m 20 #[.val (.ref a1), .val (.int p2), .val (.ref sp), .val (.int (4 : Int32)), .val (.int (1 : Int32)), .val (.int (0 : Int32))] [(.int (1 : Int32))])) _
        refine XS.istore X2.here hx rfl (hb hby d3_20) rfl (l' := #[.val (.ref a1), .val (.int p2), .val (.ref sp), .val (.int (4 : Int32)), .val (.int (1 : Int32)), .val (.int (1 : Int32))]) rfl ?_
        show Steps p.tables e below (T2.setTop (mkF m 22 #[.val (.ref a1), .val (.int p2), .val (.ref sp), .val (.int (4 : Int32)), .val (.int (1 : Int32)), .val (.int (1 : Int32))] [])) _
        refine XS.aloadN X2.here hx rfl (hb hby d3_22) rfl rfl ?_
        show Steps p.tables e below (T2.setTop (mkF m 23 #[.val (.ref a1), .val (.int p2), .val (.ref sp), .val (.int (4 : Int32)), .val (.int (1 : Int32)), .val (.int (1 : Int32))] [(.ref a1)])) _
        refine st3 _ ?_
        show Steps p.tables e below (T3.setTop (mkF m 26 #[.val (.ref a1), .val (.int p2), .val (.ref sp), .val (.int (4 : Int32)), .val (.int (1 : Int32)), .val (.int (1 : Int32))] [(.ref b)])) _
        refine XS.iload X3.here hx rfl (hb hby d3_26) rfl ?_
        show Steps p.tables e below (T3.setTop (mkF m 28 #[.val (.ref a1), .val (.int p2), .val (.ref sp), .val (.int (4 : Int32)), .val (.int (1 : Int32)), .val (.int (1 : Int32))] [(.int (1 : Int32)), (.ref b)])) _
        refine X3.caload hx (j := (1 : Int32)) (v := (.int x1)) (by rw [e3]; exact Ar.1) (State.isArrayOf_alike hZ.alike Ar.2.1) Ar.2.2 hic1 hac1 (g := (mkF m 28 #[.val (.ref a1), .val (.int p2), .val (.ref sp), .val (.int (4 : Int32)), .val (.int (1 : Int32)), .val (.int (1 : Int32))] [(.int (1 : Int32)), (.ref b)])) rfl rfl (hb hby d3_28) _ ?_
        show Steps p.tables e below (T3.setTop (mkF m 29 #[.val (.ref a1), .val (.int p2), .val (.ref sp), .val (.int (4 : Int32)), .val (.int (1 : Int32)), .val (.int (1 : Int32))] [(.int x1)])) _
        refine XS.iloadN X3.here hx rfl (hb hby d3_29) rfl ?_
        show Steps p.tables e below (T3.setTop (mkF m 30 #[.val (.ref a1), .val (.int p2), .val (.ref sp), .val (.int (4 : Int32)), .val (.int (1 : Int32)), .val (.int (1 : Int32))] [(.int p2), (.int x1)])) _
        refine XS.icmpNo X3.here hx rfl (hb hby d3_30) rfl (teq (ht1 : x1 = p2)).2 ?_
        show Steps p.tables e below (T3.setTop (mkF m 33 #[.val (.ref a1), .val (.int p2), .val (.ref sp), .val (.int (4 : Int32)), .val (.int (1 : Int32)), .val (.int (1 : Int32))] [])) _
        refine XS.iconst X3.here hx rfl (hb hby d3_33) ?_
        show Steps p.tables e below (T3.setTop (mkF m 34 #[.val (.ref a1), .val (.int p2), .val (.ref sp), .val (.int (4 : Int32)), .val (.int (1 : Int32)), .val (.int (1 : Int32))] [(.int (1 : Int32))])) _
        exact retN X3 hx (t := .boolean) Bd.returns (by simp) (hb hby d3_34) hr
      · show Qrm3 Z a1 p2 b kA x0 x1 x2 x3 x4 x5 sp kS h0 n0 _ T3.heap _
        rw [e3]
        exact ⟨by rw [own_syn, if_neg ht0, if_pos ht1], N0, rfl⟩
    · obtain ⟨T4, X4, e4, st4⟩ := getF X3 hx hZ hown (host := "") (Or.inl (hw _ (List.mem_of_getElem? (i := 10) rfl))) Via.refl e3 F_m (g := (mkF m 23 #[.val (.ref a1), .val (.int p2), .val (.ref sp), .val (.int (4 : Int32)), .val (.int (2 : Int32)), .val (.int (3 : Int32))] [(.ref a1)])) rfl rfl (hb hby d3_23)
      by_cases ht2 : x3 = p2
      · obtain ⟨fs, hr, hrun, hended, hW, hsame⟩ := X4.leave (v := some (.int (1 : Int32))) (fun h => by rw [Bd.returns] at h; cases h)
        refine ⟨_, _, pre0 _ ?_, hrun, hended, _, _, rfl, ?_, ⟨_, rfl⟩, hW, hsame.mono (by decide) (by decide)⟩
        · show Steps p.tables e below (s₁.setTop (mkF m 0 #[.val (.ref a1), .val (.int p2), .unset, .unset, .unset, .unset] [])) _
          refine st1 _ ?_
          show Steps p.tables e below (T1.setTop (mkF m 3 #[.val (.ref a1), .val (.int p2), .unset, .unset, .unset, .unset] [(.ref sp)])) _
          refine XS.astoreN X1.here hx rfl (hb hby d3_3) rfl rfl (l' := #[.val (.ref a1), .val (.int p2), .val (.ref sp), .unset, .unset, .unset]) rfl ?_
          show Steps p.tables e below (T1.setTop (mkF m 4 #[.val (.ref a1), .val (.int p2), .val (.ref sp), .unset, .unset, .unset] [])) _
          refine XS.aloadN X1.here hx rfl (hb hby d3_4) rfl rfl ?_
          show Steps p.tables e below (T1.setTop (mkF m 5 #[.val (.ref a1), .val (.int p2), .val (.ref sp), .unset, .unset, .unset] [(.ref sp)])) _
          refine X1.arraylength hx (cell := cs) (by rw [e1]; exact As.1) (State.isArrayOf_alike hZ.alike As.2.1) (g := (mkF m 5 #[.val (.ref a1), .val (.int p2), .val (.ref sp), .unset, .unset, .unset] [(.ref sp)])) rfl (rest := []) rfl (hb hby d3_5) _ ?_
          rw [len_of Ss Ms]
          show Steps p.tables e below (T1.setTop (mkF m 6 #[.val (.ref a1), .val (.int p2), .val (.ref sp), .unset, .unset, .unset] [(.int (4 : Int32))])) _
          refine XS.istoreN X1.here hx rfl (hb hby d3_6) rfl (l' := #[.val (.ref a1), .val (.int p2), .val (.ref sp), .val (.int (4 : Int32)), .unset, .unset]) rfl ?_
          show Steps p.tables e below (T1.setTop (mkF m 7 #[.val (.ref a1), .val (.int p2), .val (.ref sp), .val (.int (4 : Int32)), .unset, .unset] [])) _
          refine XS.iconst X1.here hx rfl (hb hby d3_7) ?_
          show Steps p.tables e below (T1.setTop (mkF m 8 #[.val (.ref a1), .val (.int p2), .val (.ref sp), .val (.int (4 : Int32)), .unset, .unset] [(.int (0 : Int32))])) _
          refine XS.istore X1.here hx rfl (hb hby d3_8) rfl (l' := #[.val (.ref a1), .val (.int p2), .val (.ref sp), .val (.int (4 : Int32)), .val (.int (0 : Int32)), .unset]) rfl ?_
          show Steps p.tables e below (T1.setTop (mkF m 10 #[.val (.ref a1), .val (.int p2), .val (.ref sp), .val (.int (4 : Int32)), .val (.int (0 : Int32)), .unset] [])) _
          refine XS.iload X1.here hx rfl (hb hby d3_10) rfl ?_
          show Steps p.tables e below (T1.setTop (mkF m 12 #[.val (.ref a1), .val (.int p2), .val (.ref sp), .val (.int (4 : Int32)), .val (.int (0 : Int32)), .unset] [(.int (0 : Int32))])) _
          refine XS.iloadN X1.here hx rfl (hb hby d3_12) rfl ?_
          show Steps p.tables e below (T1.setTop (mkF m 13 #[.val (.ref a1), .val (.int p2), .val (.ref sp), .val (.int (4 : Int32)), .val (.int (0 : Int32)), .unset] [(.int (4 : Int32)), (.int (0 : Int32))])) _
          refine XS.icmpNo X1.here hx rfl (hb hby d3_13) rfl (tlt (by decide : (0 : Int32) < (4 : Int32))).2.1 ?_
          show Steps p.tables e below (T1.setTop (mkF m 16 #[.val (.ref a1), .val (.int p2), .val (.ref sp), .val (.int (4 : Int32)), .val (.int (0 : Int32)), .unset] [])) _
          refine XS.aloadN X1.here hx rfl (hb hby d3_16) rfl rfl ?_
          show Steps p.tables e below (T1.setTop (mkF m 17 #[.val (.ref a1), .val (.int p2), .val (.ref sp), .val (.int (4 : Int32)), .val (.int (0 : Int32)), .unset] [(.ref sp)])) _
          refine XS.iload X1.here hx rfl (hb hby d3_17) rfl ?_
          show Steps p.tables e below (T1.setTop (mkF m 19 #[.val (.ref a1), .val (.int p2), .val (.ref sp), .val (.int (4 : Int32)), .val (.int (0 : Int32)), .unset] [(.int (0 : Int32)), (.ref sp)])) _
          refine X1.iaload hx (j := (0 : Int32)) (v := (.int (0 : Int32))) (by rw [e1]; exact As.1) (State.isArrayOf_alike hZ.alike As.2.1) As.2.2 his0 has0 (g := (mkF m 19 #[.val (.ref a1), .val (.int p2), .val (.ref sp), .val (.int (4 : Int32)), .val (.int (0 : Int32)), .unset] [(.int (0 : Int32)), (.ref sp)])) rfl rfl (hb hby d3_19) _ ?_
          show Steps p.tables e below (T1.setTop (mkF m 20 #[.val (.ref a1), .val (.int p2), .val (.ref sp), .val (.int (4 : Int32)), .val (.int (0 : Int32)), .unset] [(.int (0 : Int32))])) _
          refine XS.istore X1.here hx rfl (hb hby d3_20) rfl (l' := #[.val (.ref a1), .val (.int p2), .val (.ref sp), .val (.int (4 : Int32)), .val (.int (0 : Int32)), .val (.int (0 : Int32))]) rfl ?_
          show Steps p.tables e below (T1.setTop (mkF m 22 #[.val (.ref a1), .val (.int p2), .val (.ref sp), .val (.int (4 : Int32)), .val (.int (0 : Int32)), .val (.int (0 : Int32))] [])) _
          refine XS.aloadN X1.here hx rfl (hb hby d3_22) rfl rfl ?_
          show Steps p.tables e below (T1.setTop (mkF m 23 #[.val (.ref a1), .val (.int p2), .val (.ref sp), .val (.int (4 : Int32)), .val (.int (0 : Int32)), .val (.int (0 : Int32))] [(.ref a1)])) _
          refine st2 _ ?_
          show Steps p.tables e below (T2.setTop (mkF m 26 #[.val (.ref a1), .val (.int p2), .val (.ref sp), .val (.int (4 : Int32)), .val (.int (0 : Int32)), .val (.int (0 : Int32))] [(.ref b)])) _
          refine XS.iload X2.here hx rfl (hb hby d3_26) rfl ?_
          show Steps p.tables e below (T2.setTop (mkF m 28 #[.val (.ref a1), .val (.int p2), .val (.ref sp), .val (.int (4 : Int32)), .val (.int (0 : Int32)), .val (.int (0 : Int32))] [(.int (0 : Int32)), (.ref b)])) _
          refine X2.caload hx (j := (0 : Int32)) (v := (.int x0)) (by rw [e2]; exact Ar.1) (State.isArrayOf_alike hZ.alike Ar.2.1) Ar.2.2 hic0 hac0 (g := (mkF m 28 #[.val (.ref a1), .val (.int p2), .val (.ref sp), .val (.int (4 : Int32)), .val (.int (0 : Int32)), .val (.int (0 : Int32))] [(.int (0 : Int32)), (.ref b)])) rfl rfl (hb hby d3_28) _ ?_
          show Steps p.tables e below (T2.setTop (mkF m 29 #[.val (.ref a1), .val (.int p2), .val (.ref sp), .val (.int (4 : Int32)), .val (.int (0 : Int32)), .val (.int (0 : Int32))] [(.int x0)])) _
          refine XS.iloadN X2.here hx rfl (hb hby d3_29) rfl ?_
          show Steps p.tables e below (T2.setTop (mkF m 30 #[.val (.ref a1), .val (.int p2), .val (.ref sp), .val (.int (4 : Int32)), .val (.int (0 : Int32)), .val (.int (0 : Int32))] [(.int p2), (.int x0)])) _
          refine XS.icmpYes X2.here hx rfl (pc0 := 30) (pc' := 35) rfl (hb hby d3_30) rfl (feq (ht0 : ¬ (x0 = p2))).2 (by decide) (by decide) ?_
          show Steps p.tables e below (T2.setTop (mkF m 35 #[.val (.ref a1), .val (.int p2), .val (.ref sp), .val (.int (4 : Int32)), .val (.int (0 : Int32)), .val (.int (0 : Int32))] [])) _
          refine XS.iinc X2.here hx rfl (hb hby d3_35) rfl (l' := #[.val (.ref a1), .val (.int p2), .val (.ref sp), .val (.int (4 : Int32)), .val (.int (1 : Int32)), .val (.int (0 : Int32))]) rfl ?_
          show Steps p.tables e below (T2.setTop (mkF m 38 #[.val (.ref a1), .val (.int p2), .val (.ref sp), .val (.int (4 : Int32)), .val (.int (1 : Int32)), .val (.int (0 : Int32))] [])) _
          refine XS.goto X2.here hx rfl (pc0 := 38) (pc' := 10) rfl (hb hby d3_38) (by decide) (by decide) ?_
          show Steps p.tables e below (T2.setTop (mkF m 10 #[.val (.ref a1), .val (.int p2), .val (.ref sp), .val (.int (4 : Int32)), .val (.int (1 : Int32)), .val (.int (0 : Int32))] [])) _
          refine XS.iload X2.here hx rfl (hb hby d3_10) rfl ?_
          show Steps p.tables e below (T2.setTop (mkF m 12 #[.val (.ref a1), .val (.int p2), .val (.ref sp), .val (.int (4 : Int32)), .val (.int (1 : Int32)), .val (.int (0 : Int32))] [(.int (1 : Int32))])) _
          refine XS.iloadN X2.here hx rfl (hb hby d3_12) rfl ?_
          show Steps p.tables e below (T2.setTop (mkF m 13 #[.val (.ref a1), .val (.int p2), .val (.ref sp), .val (.int (4 : Int32)), .val (.int (1 : Int32)), .val (.int (0 : Int32))] [(.int (4 : Int32)), (.int (1 : Int32))])) _
          refine XS.icmpNo X2.here hx rfl (hb hby d3_13) rfl (tlt (by decide : (1 : Int32) < (4 : Int32))).2.1 ?_
          show Steps p.tables e below (T2.setTop (mkF m 16 #[.val (.ref a1), .val (.int p2), .val (.ref sp), .val (.int (4 : Int32)), .val (.int (1 : Int32)), .val (.int (0 : Int32))] [])) _
          refine XS.aloadN X2.here hx rfl (hb hby d3_16) rfl rfl ?_
          show Steps p.tables e below (T2.setTop (mkF m 17 #[.val (.ref a1), .val (.int p2), .val (.ref sp), .val (.int (4 : Int32)), .val (.int (1 : Int32)), .val (.int (0 : Int32))] [(.ref sp)])) _
          refine XS.iload X2.here hx rfl (hb hby d3_17) rfl ?_
          show Steps p.tables e below (T2.setTop (mkF m 19 #[.val (.ref a1), .val (.int p2), .val (.ref sp), .val (.int (4 : Int32)), .val (.int (1 : Int32)), .val (.int (0 : Int32))] [(.int (1 : Int32)), (.ref sp)])) _
          refine X2.iaload hx (j := (1 : Int32)) (v := (.int (1 : Int32))) (by rw [e2]; exact As.1) (State.isArrayOf_alike hZ.alike As.2.1) As.2.2 his1 has1 (g := (mkF m 19 #[.val (.ref a1), .val (.int p2), .val (.ref sp), .val (.int (4 : Int32)), .val (.int (1 : Int32)), .val (.int (0 : Int32))] [(.int (1 : Int32)), (.ref sp)])) rfl rfl (hb hby d3_19) _ ?_
          show Steps p.tables e below (T2.setTop (mkF m 20 #[.val (.ref a1), .val (.int p2), .val (.ref sp), .val (.int (4 : Int32)), .val (.int (1 : Int32)), .val (.int (0 : Int32))] [(.int (1 : Int32))])) _
          refine XS.istore X2.here hx rfl (hb hby d3_20) rfl (l' := #[.val (.ref a1), .val (.int p2), .val (.ref sp), .val (.int (4 : Int32)), .val (.int (1 : Int32)), .val (.int (1 : Int32))]) rfl ?_
          show Steps p.tables e below (T2.setTop (mkF m 22 #[.val (.ref a1), .val (.int p2), .val (.ref sp), .val (.int (4 : Int32)), .val (.int (1 : Int32)), .val (.int (1 : Int32))] [])) _
          refine XS.aloadN X2.here hx rfl (hb hby d3_22) rfl rfl ?_
          show Steps p.tables e below (T2.setTop (mkF m 23 #[.val (.ref a1), .val (.int p2), .val (.ref sp), .val (.int (4 : Int32)), .val (.int (1 : Int32)), .val (.int (1 : Int32))] [(.ref a1)])) _
          refine st3 _ ?_
          show Steps p.tables e below (T3.setTop (mkF m 26 #[.val (.ref a1), .val (.int p2), .val (.ref sp), .val (.int (4 : Int32)), .val (.int (1 : Int32)), .val (.int (1 : Int32))] [(.ref b)])) _
          refine XS.iload X3.here hx rfl (hb hby d3_26) rfl ?_
          show Steps p.tables e below (T3.setTop (mkF m 28 #[.val (.ref a1), .val (.int p2), .val (.ref sp), .val (.int (4 : Int32)), .val (.int (1 : Int32)), .val (.int (1 : Int32))] [(.int (1 : Int32)), (.ref b)])) _
          refine X3.caload hx (j := (1 : Int32)) (v := (.int x1)) (by rw [e3]; exact Ar.1) (State.isArrayOf_alike hZ.alike Ar.2.1) Ar.2.2 hic1 hac1 (g := (mkF m 28 #[.val (.ref a1), .val (.int p2), .val (.ref sp), .val (.int (4 : Int32)), .val (.int (1 : Int32)), .val (.int (1 : Int32))] [(.int (1 : Int32)), (.ref b)])) rfl rfl (hb hby d3_28) _ ?_
          show Steps p.tables e below (T3.setTop (mkF m 29 #[.val (.ref a1), .val (.int p2), .val (.ref sp), .val (.int (4 : Int32)), .val (.int (1 : Int32)), .val (.int (1 : Int32))] [(.int x1)])) _
          refine XS.iloadN X3.here hx rfl (hb hby d3_29) rfl ?_
          show Steps p.tables e below (T3.setTop (mkF m 30 #[.val (.ref a1), .val (.int p2), .val (.ref sp), .val (.int (4 : Int32)), .val (.int (1 : Int32)), .val (.int (1 : Int32))] [(.int p2), (.int x1)])) _
          refine XS.icmpYes X3.here hx rfl (pc0 := 30) (pc' := 35) rfl (hb hby d3_30) rfl (feq (ht1 : ¬ (x1 = p2))).2 (by decide) (by decide) ?_
          show Steps p.tables e below (T3.setTop (mkF m 35 #[.val (.ref a1), .val (.int p2), .val (.ref sp), .val (.int (4 : Int32)), .val (.int (1 : Int32)), .val (.int (1 : Int32))] [])) _
          refine XS.iinc X3.here hx rfl (hb hby d3_35) rfl (l' := #[.val (.ref a1), .val (.int p2), .val (.ref sp), .val (.int (4 : Int32)), .val (.int (2 : Int32)), .val (.int (1 : Int32))]) rfl ?_
          show Steps p.tables e below (T3.setTop (mkF m 38 #[.val (.ref a1), .val (.int p2), .val (.ref sp), .val (.int (4 : Int32)), .val (.int (2 : Int32)), .val (.int (1 : Int32))] [])) _
          refine XS.goto X3.here hx rfl (pc0 := 38) (pc' := 10) rfl (hb hby d3_38) (by decide) (by decide) ?_
          show Steps p.tables e below (T3.setTop (mkF m 10 #[.val (.ref a1), .val (.int p2), .val (.ref sp), .val (.int (4 : Int32)), .val (.int (2 : Int32)), .val (.int (1 : Int32))] [])) _
          refine XS.iload X3.here hx rfl (hb hby d3_10) rfl ?_
          show Steps p.tables e below (T3.setTop (mkF m 12 #[.val (.ref a1), .val (.int p2), .val (.ref sp), .val (.int (4 : Int32)), .val (.int (2 : Int32)), .val (.int (1 : Int32))] [(.int (2 : Int32))])) _
          refine XS.iloadN X3.here hx rfl (hb hby d3_12) rfl ?_
          show Steps p.tables e below (T3.setTop (mkF m 13 #[.val (.ref a1), .val (.int p2), .val (.ref sp), .val (.int (4 : Int32)), .val (.int (2 : Int32)), .val (.int (1 : Int32))] [(.int (4 : Int32)), (.int (2 : Int32))])) _
          refine XS.icmpNo X3.here hx rfl (hb hby d3_13) rfl (tlt (by decide : (2 : Int32) < (4 : Int32))).2.1 ?_
          show Steps p.tables e below (T3.setTop (mkF m 16 #[.val (.ref a1), .val (.int p2), .val (.ref sp), .val (.int (4 : Int32)), .val (.int (2 : Int32)), .val (.int (1 : Int32))] [])) _
          refine XS.aloadN X3.here hx rfl (hb hby d3_16) rfl rfl ?_
          show Steps p.tables e below (T3.setTop (mkF m 17 #[.val (.ref a1), .val (.int p2), .val (.ref sp), .val (.int (4 : Int32)), .val (.int (2 : Int32)), .val (.int (1 : Int32))] [(.ref sp)])) _
          refine XS.iload X3.here hx rfl (hb hby d3_17) rfl ?_
          show Steps p.tables e below (T3.setTop (mkF m 19 #[.val (.ref a1), .val (.int p2), .val (.ref sp), .val (.int (4 : Int32)), .val (.int (2 : Int32)), .val (.int (1 : Int32))] [(.int (2 : Int32)), (.ref sp)])) _
          refine X3.iaload hx (j := (2 : Int32)) (v := (.int (3 : Int32))) (by rw [e3]; exact As.1) (State.isArrayOf_alike hZ.alike As.2.1) As.2.2 his2 has2 (g := (mkF m 19 #[.val (.ref a1), .val (.int p2), .val (.ref sp), .val (.int (4 : Int32)), .val (.int (2 : Int32)), .val (.int (1 : Int32))] [(.int (2 : Int32)), (.ref sp)])) rfl rfl (hb hby d3_19) _ ?_
          show Steps p.tables e below (T3.setTop (mkF m 20 #[.val (.ref a1), .val (.int p2), .val (.ref sp), .val (.int (4 : Int32)), .val (.int (2 : Int32)), .val (.int (1 : Int32))] [(.int (3 : Int32))])) _
          refine XS.istore X3.here hx rfl (hb hby d3_20) rfl (l' := #[.val (.ref a1), .val (.int p2), .val (.ref sp), .val (.int (4 : Int32)), .val (.int (2 : Int32)), .val (.int (3 : Int32))]) rfl ?_
          show Steps p.tables e below (T3.setTop (mkF m 22 #[.val (.ref a1), .val (.int p2), .val (.ref sp), .val (.int (4 : Int32)), .val (.int (2 : Int32)), .val (.int (3 : Int32))] [])) _
          refine XS.aloadN X3.here hx rfl (hb hby d3_22) rfl rfl ?_
          show Steps p.tables e below (T3.setTop (mkF m 23 #[.val (.ref a1), .val (.int p2), .val (.ref sp), .val (.int (4 : Int32)), .val (.int (2 : Int32)), .val (.int (3 : Int32))] [(.ref a1)])) _
          refine st4 _ ?_
          show Steps p.tables e below (T4.setTop (mkF m 26 #[.val (.ref a1), .val (.int p2), .val (.ref sp), .val (.int (4 : Int32)), .val (.int (2 : Int32)), .val (.int (3 : Int32))] [(.ref b)])) _
          refine XS.iload X4.here hx rfl (hb hby d3_26) rfl ?_
          show Steps p.tables e below (T4.setTop (mkF m 28 #[.val (.ref a1), .val (.int p2), .val (.ref sp), .val (.int (4 : Int32)), .val (.int (2 : Int32)), .val (.int (3 : Int32))] [(.int (3 : Int32)), (.ref b)])) _
          refine X4.caload hx (j := (3 : Int32)) (v := (.int x3)) (by rw [e4]; exact Ar.1) (State.isArrayOf_alike hZ.alike Ar.2.1) Ar.2.2 hic3 hac3 (g := (mkF m 28 #[.val (.ref a1), .val (.int p2), .val (.ref sp), .val (.int (4 : Int32)), .val (.int (2 : Int32)), .val (.int (3 : Int32))] [(.int (3 : Int32)), (.ref b)])) rfl rfl (hb hby d3_28) _ ?_
          show Steps p.tables e below (T4.setTop (mkF m 29 #[.val (.ref a1), .val (.int p2), .val (.ref sp), .val (.int (4 : Int32)), .val (.int (2 : Int32)), .val (.int (3 : Int32))] [(.int x3)])) _
          refine XS.iloadN X4.here hx rfl (hb hby d3_29) rfl ?_
          show Steps p.tables e below (T4.setTop (mkF m 30 #[.val (.ref a1), .val (.int p2), .val (.ref sp), .val (.int (4 : Int32)), .val (.int (2 : Int32)), .val (.int (3 : Int32))] [(.int p2), (.int x3)])) _
          refine XS.icmpNo X4.here hx rfl (hb hby d3_30) rfl (teq (ht2 : x3 = p2)).2 ?_
          show Steps p.tables e below (T4.setTop (mkF m 33 #[.val (.ref a1), .val (.int p2), .val (.ref sp), .val (.int (4 : Int32)), .val (.int (2 : Int32)), .val (.int (3 : Int32))] [])) _
          refine XS.iconst X4.here hx rfl (hb hby d3_33) ?_
          show Steps p.tables e below (T4.setTop (mkF m 34 #[.val (.ref a1), .val (.int p2), .val (.ref sp), .val (.int (4 : Int32)), .val (.int (2 : Int32)), .val (.int (3 : Int32))] [(.int (1 : Int32))])) _
          exact retN X4 hx (t := .boolean) Bd.returns (by simp) (hb hby d3_34) hr
        · show Qrm3 Z a1 p2 b kA x0 x1 x2 x3 x4 x5 sp kS h0 n0 _ T4.heap _
          rw [e4]
          exact ⟨by rw [own_syn, if_neg ht0, if_neg ht1, if_pos ht2], N0, rfl⟩
      · obtain ⟨T5, X5, e5, st5⟩ := getF X4 hx hZ hown (host := "") (Or.inl (hw _ (List.mem_of_getElem? (i := 10) rfl))) Via.refl e4 F_m (g := (mkF m 23 #[.val (.ref a1), .val (.int p2), .val (.ref sp), .val (.int (4 : Int32)), .val (.int (3 : Int32)), .val (.int (5 : Int32))] [(.ref a1)])) rfl rfl (hb hby d3_23)
        by_cases ht3 : x5 = p2
        · obtain ⟨fs, hr, hrun, hended, hW, hsame⟩ := X5.leave (v := some (.int (1 : Int32))) (fun h => by rw [Bd.returns] at h; cases h)
          refine ⟨_, _, pre0 _ ?_, hrun, hended, _, _, rfl, ?_, ⟨_, rfl⟩, hW, hsame.mono (by decide) (by decide)⟩
          · show Steps p.tables e below (s₁.setTop (mkF m 0 #[.val (.ref a1), .val (.int p2), .unset, .unset, .unset, .unset] [])) _
            refine st1 _ ?_
            show Steps p.tables e below (T1.setTop (mkF m 3 #[.val (.ref a1), .val (.int p2), .unset, .unset, .unset, .unset] [(.ref sp)])) _
            refine XS.astoreN X1.here hx rfl (hb hby d3_3) rfl rfl (l' := #[.val (.ref a1), .val (.int p2), .val (.ref sp), .unset, .unset, .unset]) rfl ?_
            show Steps p.tables e below (T1.setTop (mkF m 4 #[.val (.ref a1), .val (.int p2), .val (.ref sp), .unset, .unset, .unset] [])) _
            refine XS.aloadN X1.here hx rfl (hb hby d3_4) rfl rfl ?_
            show Steps p.tables e below (T1.setTop (mkF m 5 #[.val (.ref a1), .val (.int p2), .val (.ref sp), .unset, .unset, .unset] [(.ref sp)])) _
            refine X1.arraylength hx (cell := cs) (by rw [e1]; exact As.1) (State.isArrayOf_alike hZ.alike As.2.1) (g := (mkF m 5 #[.val (.ref a1), .val (.int p2), .val (.ref sp), .unset, .unset, .unset] [(.ref sp)])) rfl (rest := []) rfl (hb hby d3_5) _ ?_
            rw [len_of Ss Ms]
            show Steps p.tables e below (T1.setTop (mkF m 6 #[.val (.ref a1), .val (.int p2), .val (.ref sp), .unset, .unset, .unset] [(.int (4 : Int32))])) _
            refine XS.istoreN X1.here hx rfl (hb hby d3_6) rfl (l' := #[.val (.ref a1), .val (.int p2), .val (.ref sp), .val (.int (4 : Int32)), .unset, .unset]) rfl ?_
            show Steps p.tables e below (T1.setTop (mkF m 7 #[.val (.ref a1), .val (.int p2), .val (.ref sp), .val (.int (4 : Int32)), .unset, .unset] [])) _
            refine XS.iconst X1.here hx rfl (hb hby d3_7) ?_
            show Steps p.tables e below (T1.setTop (mkF m 8 #[.val (.ref a1), .val (.int p2), .val (.ref sp), .val (.int (4 : Int32)), .unset, .unset] [(.int (0 : Int32))])) _
            refine XS.istore X1.here hx rfl (hb hby d3_8) rfl (l' := #[.val (.ref a1), .val (.int p2), .val (.ref sp), .val (.int (4 : Int32)), .val (.int (0 : Int32)), .unset]) rfl ?_
            show Steps p.tables e below (T1.setTop (mkF m 10 #[.val (.ref a1), .val (.int p2), .val (.ref sp), .val (.int (4 : Int32)), .val (.int (0 : Int32)), .unset] [])) _
            refine XS.iload X1.here hx rfl (hb hby d3_10) rfl ?_
            show Steps p.tables e below (T1.setTop (mkF m 12 #[.val (.ref a1), .val (.int p2), .val (.ref sp), .val (.int (4 : Int32)), .val (.int (0 : Int32)), .unset] [(.int (0 : Int32))])) _
            refine XS.iloadN X1.here hx rfl (hb hby d3_12) rfl ?_
            show Steps p.tables e below (T1.setTop (mkF m 13 #[.val (.ref a1), .val (.int p2), .val (.ref sp), .val (.int (4 : Int32)), .val (.int (0 : Int32)), .unset] [(.int (4 : Int32)), (.int (0 : Int32))])) _
            refine XS.icmpNo X1.here hx rfl (hb hby d3_13) rfl (tlt (by decide : (0 : Int32) < (4 : Int32))).2.1 ?_
            show Steps p.tables e below (T1.setTop (mkF m 16 #[.val (.ref a1), .val (.int p2), .val (.ref sp), .val (.int (4 : Int32)), .val (.int (0 : Int32)), .unset] [])) _
            refine XS.aloadN X1.here hx rfl (hb hby d3_16) rfl rfl ?_
            show Steps p.tables e below (T1.setTop (mkF m 17 #[.val (.ref a1), .val (.int p2), .val (.ref sp), .val (.int (4 : Int32)), .val (.int (0 : Int32)), .unset] [(.ref sp)])) _
            refine XS.iload X1.here hx rfl (hb hby d3_17) rfl ?_
            show Steps p.tables e below (T1.setTop (mkF m 19 #[.val (.ref a1), .val (.int p2), .val (.ref sp), .val (.int (4 : Int32)), .val (.int (0 : Int32)), .unset] [(.int (0 : Int32)), (.ref sp)])) _
            refine X1.iaload hx (j := (0 : Int32)) (v := (.int (0 : Int32))) (by rw [e1]; exact As.1) (State.isArrayOf_alike hZ.alike As.2.1) As.2.2 his0 has0 (g := (mkF m 19 #[.val (.ref a1), .val (.int p2), .val (.ref sp), .val (.int (4 : Int32)), .val (.int (0 : Int32)), .unset] [(.int (0 : Int32)), (.ref sp)])) rfl rfl (hb hby d3_19) _ ?_
            show Steps p.tables e below (T1.setTop (mkF m 20 #[.val (.ref a1), .val (.int p2), .val (.ref sp), .val (.int (4 : Int32)), .val (.int (0 : Int32)), .unset] [(.int (0 : Int32))])) _
            refine XS.istore X1.here hx rfl (hb hby d3_20) rfl (l' := #[.val (.ref a1), .val (.int p2), .val (.ref sp), .val (.int (4 : Int32)), .val (.int (0 : Int32)), .val (.int (0 : Int32))]) rfl ?_
            show Steps p.tables e below (T1.setTop (mkF m 22 #[.val (.ref a1), .val (.int p2), .val (.ref sp), .val (.int (4 : Int32)), .val (.int (0 : Int32)), .val (.int (0 : Int32))] [])) _
            refine XS.aloadN X1.here hx rfl (hb hby d3_22) rfl rfl ?_
            show Steps p.tables e below (T1.setTop (mkF m 23 #[.val (.ref a1), .val (.int p2), .val (.ref sp), .val (.int (4 : Int32)), .val (.int (0 : Int32)), .val (.int (0 : Int32))] [(.ref a1)])) _
            refine st2 _ ?_
            show Steps p.tables e below (T2.setTop (mkF m 26 #[.val (.ref a1), .val (.int p2), .val (.ref sp), .val (.int (4 : Int32)), .val (.int (0 : Int32)), .val (.int (0 : Int32))] [(.ref b)])) _
            refine XS.iload X2.here hx rfl (hb hby d3_26) rfl ?_
            show Steps p.tables e below (T2.setTop (mkF m 28 #[.val (.ref a1), .val (.int p2), .val (.ref sp), .val (.int (4 : Int32)), .val (.int (0 : Int32)), .val (.int (0 : Int32))] [(.int (0 : Int32)), (.ref b)])) _
            refine X2.caload hx (j := (0 : Int32)) (v := (.int x0)) (by rw [e2]; exact Ar.1) (State.isArrayOf_alike hZ.alike Ar.2.1) Ar.2.2 hic0 hac0 (g := (mkF m 28 #[.val (.ref a1), .val (.int p2), .val (.ref sp), .val (.int (4 : Int32)), .val (.int (0 : Int32)), .val (.int (0 : Int32))] [(.int (0 : Int32)), (.ref b)])) rfl rfl (hb hby d3_28) _ ?_
            show Steps p.tables e below (T2.setTop (mkF m 29 #[.val (.ref a1), .val (.int p2), .val (.ref sp), .val (.int (4 : Int32)), .val (.int (0 : Int32)), .val (.int (0 : Int32))] [(.int x0)])) _
            refine XS.iloadN X2.here hx rfl (hb hby d3_29) rfl ?_
            show Steps p.tables e below (T2.setTop (mkF m 30 #[.val (.ref a1), .val (.int p2), .val (.ref sp), .val (.int (4 : Int32)), .val (.int (0 : Int32)), .val (.int (0 : Int32))] [(.int p2), (.int x0)])) _
            refine XS.icmpYes X2.here hx rfl (pc0 := 30) (pc' := 35) rfl (hb hby d3_30) rfl (feq (ht0 : ¬ (x0 = p2))).2 (by decide) (by decide) ?_
            show Steps p.tables e below (T2.setTop (mkF m 35 #[.val (.ref a1), .val (.int p2), .val (.ref sp), .val (.int (4 : Int32)), .val (.int (0 : Int32)), .val (.int (0 : Int32))] [])) _
            refine XS.iinc X2.here hx rfl (hb hby d3_35) rfl (l' := #[.val (.ref a1), .val (.int p2), .val (.ref sp), .val (.int (4 : Int32)), .val (.int (1 : Int32)), .val (.int (0 : Int32))]) rfl ?_
            show Steps p.tables e below (T2.setTop (mkF m 38 #[.val (.ref a1), .val (.int p2), .val (.ref sp), .val (.int (4 : Int32)), .val (.int (1 : Int32)), .val (.int (0 : Int32))] [])) _
            refine XS.goto X2.here hx rfl (pc0 := 38) (pc' := 10) rfl (hb hby d3_38) (by decide) (by decide) ?_
            show Steps p.tables e below (T2.setTop (mkF m 10 #[.val (.ref a1), .val (.int p2), .val (.ref sp), .val (.int (4 : Int32)), .val (.int (1 : Int32)), .val (.int (0 : Int32))] [])) _
            refine XS.iload X2.here hx rfl (hb hby d3_10) rfl ?_
            show Steps p.tables e below (T2.setTop (mkF m 12 #[.val (.ref a1), .val (.int p2), .val (.ref sp), .val (.int (4 : Int32)), .val (.int (1 : Int32)), .val (.int (0 : Int32))] [(.int (1 : Int32))])) _
            refine XS.iloadN X2.here hx rfl (hb hby d3_12) rfl ?_
            show Steps p.tables e below (T2.setTop (mkF m 13 #[.val (.ref a1), .val (.int p2), .val (.ref sp), .val (.int (4 : Int32)), .val (.int (1 : Int32)), .val (.int (0 : Int32))] [(.int (4 : Int32)), (.int (1 : Int32))])) _
            refine XS.icmpNo X2.here hx rfl (hb hby d3_13) rfl (tlt (by decide : (1 : Int32) < (4 : Int32))).2.1 ?_
            show Steps p.tables e below (T2.setTop (mkF m 16 #[.val (.ref a1), .val (.int p2), .val (.ref sp), .val (.int (4 : Int32)), .val (.int (1 : Int32)), .val (.int (0 : Int32))] [])) _
            refine XS.aloadN X2.here hx rfl (hb hby d3_16) rfl rfl ?_
            show Steps p.tables e below (T2.setTop (mkF m 17 #[.val (.ref a1), .val (.int p2), .val (.ref sp), .val (.int (4 : Int32)), .val (.int (1 : Int32)), .val (.int (0 : Int32))] [(.ref sp)])) _
            refine XS.iload X2.here hx rfl (hb hby d3_17) rfl ?_
            show Steps p.tables e below (T2.setTop (mkF m 19 #[.val (.ref a1), .val (.int p2), .val (.ref sp), .val (.int (4 : Int32)), .val (.int (1 : Int32)), .val (.int (0 : Int32))] [(.int (1 : Int32)), (.ref sp)])) _
            refine X2.iaload hx (j := (1 : Int32)) (v := (.int (1 : Int32))) (by rw [e2]; exact As.1) (State.isArrayOf_alike hZ.alike As.2.1) As.2.2 his1 has1 (g := (mkF m 19 #[.val (.ref a1), .val (.int p2), .val (.ref sp), .val (.int (4 : Int32)), .val (.int (1 : Int32)), .val (.int (0 : Int32))] [(.int (1 : Int32)), (.ref sp)])) rfl rfl (hb hby d3_19) _ ?_
            show Steps p.tables e below (T2.setTop (mkF m 20 #[.val (.ref a1), .val (.int p2), .val (.ref sp), .val (.int (4 : Int32)), .val (.int (1 : Int32)), .val (.int (0 : Int32))] [(.int (1 : Int32))])) _
            refine XS.istore X2.here hx rfl (hb hby d3_20) rfl (l' := #[.val (.ref a1), .val (.int p2), .val (.ref sp), .val (.int (4 : Int32)), .val (.int (1 : Int32)), .val (.int (1 : Int32))]) rfl ?_
            show Steps p.tables e below (T2.setTop (mkF m 22 #[.val (.ref a1), .val (.int p2), .val (.ref sp), .val (.int (4 : Int32)), .val (.int (1 : Int32)), .val (.int (1 : Int32))] [])) _
            refine XS.aloadN X2.here hx rfl (hb hby d3_22) rfl rfl ?_
            show Steps p.tables e below (T2.setTop (mkF m 23 #[.val (.ref a1), .val (.int p2), .val (.ref sp), .val (.int (4 : Int32)), .val (.int (1 : Int32)), .val (.int (1 : Int32))] [(.ref a1)])) _
            refine st3 _ ?_
            show Steps p.tables e below (T3.setTop (mkF m 26 #[.val (.ref a1), .val (.int p2), .val (.ref sp), .val (.int (4 : Int32)), .val (.int (1 : Int32)), .val (.int (1 : Int32))] [(.ref b)])) _
            refine XS.iload X3.here hx rfl (hb hby d3_26) rfl ?_
            show Steps p.tables e below (T3.setTop (mkF m 28 #[.val (.ref a1), .val (.int p2), .val (.ref sp), .val (.int (4 : Int32)), .val (.int (1 : Int32)), .val (.int (1 : Int32))] [(.int (1 : Int32)), (.ref b)])) _
            refine X3.caload hx (j := (1 : Int32)) (v := (.int x1)) (by rw [e3]; exact Ar.1) (State.isArrayOf_alike hZ.alike Ar.2.1) Ar.2.2 hic1 hac1 (g := (mkF m 28 #[.val (.ref a1), .val (.int p2), .val (.ref sp), .val (.int (4 : Int32)), .val (.int (1 : Int32)), .val (.int (1 : Int32))] [(.int (1 : Int32)), (.ref b)])) rfl rfl (hb hby d3_28) _ ?_
            show Steps p.tables e below (T3.setTop (mkF m 29 #[.val (.ref a1), .val (.int p2), .val (.ref sp), .val (.int (4 : Int32)), .val (.int (1 : Int32)), .val (.int (1 : Int32))] [(.int x1)])) _
            refine XS.iloadN X3.here hx rfl (hb hby d3_29) rfl ?_
            show Steps p.tables e below (T3.setTop (mkF m 30 #[.val (.ref a1), .val (.int p2), .val (.ref sp), .val (.int (4 : Int32)), .val (.int (1 : Int32)), .val (.int (1 : Int32))] [(.int p2), (.int x1)])) _
            refine XS.icmpYes X3.here hx rfl (pc0 := 30) (pc' := 35) rfl (hb hby d3_30) rfl (feq (ht1 : ¬ (x1 = p2))).2 (by decide) (by decide) ?_
            show Steps p.tables e below (T3.setTop (mkF m 35 #[.val (.ref a1), .val (.int p2), .val (.ref sp), .val (.int (4 : Int32)), .val (.int (1 : Int32)), .val (.int (1 : Int32))] [])) _
            refine XS.iinc X3.here hx rfl (hb hby d3_35) rfl (l' := #[.val (.ref a1), .val (.int p2), .val (.ref sp), .val (.int (4 : Int32)), .val (.int (2 : Int32)), .val (.int (1 : Int32))]) rfl ?_
            show Steps p.tables e below (T3.setTop (mkF m 38 #[.val (.ref a1), .val (.int p2), .val (.ref sp), .val (.int (4 : Int32)), .val (.int (2 : Int32)), .val (.int (1 : Int32))] [])) _
            refine XS.goto X3.here hx rfl (pc0 := 38) (pc' := 10) rfl (hb hby d3_38) (by decide) (by decide) ?_
            show Steps p.tables e below (T3.setTop (mkF m 10 #[.val (.ref a1), .val (.int p2), .val (.ref sp), .val (.int (4 : Int32)), .val (.int (2 : Int32)), .val (.int (1 : Int32))] [])) _
            refine XS.iload X3.here hx rfl (hb hby d3_10) rfl ?_
            show Steps p.tables e below (T3.setTop (mkF m 12 #[.val (.ref a1), .val (.int p2), .val (.ref sp), .val (.int (4 : Int32)), .val (.int (2 : Int32)), .val (.int (1 : Int32))] [(.int (2 : Int32))])) _
            refine XS.iloadN X3.here hx rfl (hb hby d3_12) rfl ?_
            show Steps p.tables e below (T3.setTop (mkF m 13 #[.val (.ref a1), .val (.int p2), .val (.ref sp), .val (.int (4 : Int32)), .val (.int (2 : Int32)), .val (.int (1 : Int32))] [(.int (4 : Int32)), (.int (2 : Int32))])) _
            refine XS.icmpNo X3.here hx rfl (hb hby d3_13) rfl (tlt (by decide : (2 : Int32) < (4 : Int32))).2.1 ?_
            show Steps p.tables e below (T3.setTop (mkF m 16 #[.val (.ref a1), .val (.int p2), .val (.ref sp), .val (.int (4 : Int32)), .val (.int (2 : Int32)), .val (.int (1 : Int32))] [])) _
            refine XS.aloadN X3.here hx rfl (hb hby d3_16) rfl rfl ?_
            show Steps p.tables e below (T3.setTop (mkF m 17 #[.val (.ref a1), .val (.int p2), .val (.ref sp), .val (.int (4 : Int32)), .val (.int (2 : Int32)), .val (.int (1 : Int32))] [(.ref sp)])) _
            refine XS.iload X3.here hx rfl (hb hby d3_17) rfl ?_
            show Steps p.tables e below (T3.setTop (mkF m 19 #[.val (.ref a1), .val (.int p2), .val (.ref sp), .val (.int (4 : Int32)), .val (.int (2 : Int32)), .val (.int (1 : Int32))] [(.int (2 : Int32)), (.ref sp)])) _
            refine X3.iaload hx (j := (2 : Int32)) (v := (.int (3 : Int32))) (by rw [e3]; exact As.1) (State.isArrayOf_alike hZ.alike As.2.1) As.2.2 his2 has2 (g := (mkF m 19 #[.val (.ref a1), .val (.int p2), .val (.ref sp), .val (.int (4 : Int32)), .val (.int (2 : Int32)), .val (.int (1 : Int32))] [(.int (2 : Int32)), (.ref sp)])) rfl rfl (hb hby d3_19) _ ?_
            show Steps p.tables e below (T3.setTop (mkF m 20 #[.val (.ref a1), .val (.int p2), .val (.ref sp), .val (.int (4 : Int32)), .val (.int (2 : Int32)), .val (.int (1 : Int32))] [(.int (3 : Int32))])) _
            refine XS.istore X3.here hx rfl (hb hby d3_20) rfl (l' := #[.val (.ref a1), .val (.int p2), .val (.ref sp), .val (.int (4 : Int32)), .val (.int (2 : Int32)), .val (.int (3 : Int32))]) rfl ?_
            show Steps p.tables e below (T3.setTop (mkF m 22 #[.val (.ref a1), .val (.int p2), .val (.ref sp), .val (.int (4 : Int32)), .val (.int (2 : Int32)), .val (.int (3 : Int32))] [])) _
            refine XS.aloadN X3.here hx rfl (hb hby d3_22) rfl rfl ?_
            show Steps p.tables e below (T3.setTop (mkF m 23 #[.val (.ref a1), .val (.int p2), .val (.ref sp), .val (.int (4 : Int32)), .val (.int (2 : Int32)), .val (.int (3 : Int32))] [(.ref a1)])) _
            refine st4 _ ?_
            show Steps p.tables e below (T4.setTop (mkF m 26 #[.val (.ref a1), .val (.int p2), .val (.ref sp), .val (.int (4 : Int32)), .val (.int (2 : Int32)), .val (.int (3 : Int32))] [(.ref b)])) _
            refine XS.iload X4.here hx rfl (hb hby d3_26) rfl ?_
            show Steps p.tables e below (T4.setTop (mkF m 28 #[.val (.ref a1), .val (.int p2), .val (.ref sp), .val (.int (4 : Int32)), .val (.int (2 : Int32)), .val (.int (3 : Int32))] [(.int (3 : Int32)), (.ref b)])) _
            refine X4.caload hx (j := (3 : Int32)) (v := (.int x3)) (by rw [e4]; exact Ar.1) (State.isArrayOf_alike hZ.alike Ar.2.1) Ar.2.2 hic3 hac3 (g := (mkF m 28 #[.val (.ref a1), .val (.int p2), .val (.ref sp), .val (.int (4 : Int32)), .val (.int (2 : Int32)), .val (.int (3 : Int32))] [(.int (3 : Int32)), (.ref b)])) rfl rfl (hb hby d3_28) _ ?_
            show Steps p.tables e below (T4.setTop (mkF m 29 #[.val (.ref a1), .val (.int p2), .val (.ref sp), .val (.int (4 : Int32)), .val (.int (2 : Int32)), .val (.int (3 : Int32))] [(.int x3)])) _
            refine XS.iloadN X4.here hx rfl (hb hby d3_29) rfl ?_
            show Steps p.tables e below (T4.setTop (mkF m 30 #[.val (.ref a1), .val (.int p2), .val (.ref sp), .val (.int (4 : Int32)), .val (.int (2 : Int32)), .val (.int (3 : Int32))] [(.int p2), (.int x3)])) _
            refine XS.icmpYes X4.here hx rfl (pc0 := 30) (pc' := 35) rfl (hb hby d3_30) rfl (feq (ht2 : ¬ (x3 = p2))).2 (by decide) (by decide) ?_
            show Steps p.tables e below (T4.setTop (mkF m 35 #[.val (.ref a1), .val (.int p2), .val (.ref sp), .val (.int (4 : Int32)), .val (.int (2 : Int32)), .val (.int (3 : Int32))] [])) _
            refine XS.iinc X4.here hx rfl (hb hby d3_35) rfl (l' := #[.val (.ref a1), .val (.int p2), .val (.ref sp), .val (.int (4 : Int32)), .val (.int (3 : Int32)), .val (.int (3 : Int32))]) rfl ?_
            show Steps p.tables e below (T4.setTop (mkF m 38 #[.val (.ref a1), .val (.int p2), .val (.ref sp), .val (.int (4 : Int32)), .val (.int (3 : Int32)), .val (.int (3 : Int32))] [])) _
            refine XS.goto X4.here hx rfl (pc0 := 38) (pc' := 10) rfl (hb hby d3_38) (by decide) (by decide) ?_
            show Steps p.tables e below (T4.setTop (mkF m 10 #[.val (.ref a1), .val (.int p2), .val (.ref sp), .val (.int (4 : Int32)), .val (.int (3 : Int32)), .val (.int (3 : Int32))] [])) _
            refine XS.iload X4.here hx rfl (hb hby d3_10) rfl ?_
            show Steps p.tables e below (T4.setTop (mkF m 12 #[.val (.ref a1), .val (.int p2), .val (.ref sp), .val (.int (4 : Int32)), .val (.int (3 : Int32)), .val (.int (3 : Int32))] [(.int (3 : Int32))])) _
            refine XS.iloadN X4.here hx rfl (hb hby d3_12) rfl ?_
            show Steps p.tables e below (T4.setTop (mkF m 13 #[.val (.ref a1), .val (.int p2), .val (.ref sp), .val (.int (4 : Int32)), .val (.int (3 : Int32)), .val (.int (3 : Int32))] [(.int (4 : Int32)), (.int (3 : Int32))])) _
            refine XS.icmpNo X4.here hx rfl (hb hby d3_13) rfl (tlt (by decide : (3 : Int32) < (4 : Int32))).2.1 ?_
            show Steps p.tables e below (T4.setTop (mkF m 16 #[.val (.ref a1), .val (.int p2), .val (.ref sp), .val (.int (4 : Int32)), .val (.int (3 : Int32)), .val (.int (3 : Int32))] [])) _
            refine XS.aloadN X4.here hx rfl (hb hby d3_16) rfl rfl ?_
            show Steps p.tables e below (T4.setTop (mkF m 17 #[.val (.ref a1), .val (.int p2), .val (.ref sp), .val (.int (4 : Int32)), .val (.int (3 : Int32)), .val (.int (3 : Int32))] [(.ref sp)])) _
            refine XS.iload X4.here hx rfl (hb hby d3_17) rfl ?_
            show Steps p.tables e below (T4.setTop (mkF m 19 #[.val (.ref a1), .val (.int p2), .val (.ref sp), .val (.int (4 : Int32)), .val (.int (3 : Int32)), .val (.int (3 : Int32))] [(.int (3 : Int32)), (.ref sp)])) _
            refine X4.iaload hx (j := (3 : Int32)) (v := (.int (5 : Int32))) (by rw [e4]; exact As.1) (State.isArrayOf_alike hZ.alike As.2.1) As.2.2 his3 has3 (g := (mkF m 19 #[.val (.ref a1), .val (.int p2), .val (.ref sp), .val (.int (4 : Int32)), .val (.int (3 : Int32)), .val (.int (3 : Int32))] [(.int (3 : Int32)), (.ref sp)])) rfl rfl (hb hby d3_19) _ ?_
            show Steps p.tables e below (T4.setTop (mkF m 20 #[.val (.ref a1), .val (.int p2), .val (.ref sp), .val (.int (4 : Int32)), .val (.int (3 : Int32)), .val (.int (3 : Int32))] [(.int (5 : Int32))])) _
            refine XS.istore X4.here hx rfl (hb hby d3_20) rfl (l' := #[.val (.ref a1), .val (.int p2), .val (.ref sp), .val (.int (4 : Int32)), .val (.int (3 : Int32)), .val (.int (5 : Int32))]) rfl ?_
            show Steps p.tables e below (T4.setTop (mkF m 22 #[.val (.ref a1), .val (.int p2), .val (.ref sp), .val (.int (4 : Int32)), .val (.int (3 : Int32)), .val (.int (5 : Int32))] [])) _
            refine XS.aloadN X4.here hx rfl (hb hby d3_22) rfl rfl ?_
            show Steps p.tables e below (T4.setTop (mkF m 23 #[.val (.ref a1), .val (.int p2), .val (.ref sp), .val (.int (4 : Int32)), .val (.int (3 : Int32)), .val (.int (5 : Int32))] [(.ref a1)])) _
            refine st5 _ ?_
            show Steps p.tables e below (T5.setTop (mkF m 26 #[.val (.ref a1), .val (.int p2), .val (.ref sp), .val (.int (4 : Int32)), .val (.int (3 : Int32)), .val (.int (5 : Int32))] [(.ref b)])) _
            refine XS.iload X5.here hx rfl (hb hby d3_26) rfl ?_
            show Steps p.tables e below (T5.setTop (mkF m 28 #[.val (.ref a1), .val (.int p2), .val (.ref sp), .val (.int (4 : Int32)), .val (.int (3 : Int32)), .val (.int (5 : Int32))] [(.int (5 : Int32)), (.ref b)])) _
            refine X5.caload hx (j := (5 : Int32)) (v := (.int x5)) (by rw [e5]; exact Ar.1) (State.isArrayOf_alike hZ.alike Ar.2.1) Ar.2.2 hic5 hac5 (g := (mkF m 28 #[.val (.ref a1), .val (.int p2), .val (.ref sp), .val (.int (4 : Int32)), .val (.int (3 : Int32)), .val (.int (5 : Int32))] [(.int (5 : Int32)), (.ref b)])) rfl rfl (hb hby d3_28) _ ?_
            show Steps p.tables e below (T5.setTop (mkF m 29 #[.val (.ref a1), .val (.int p2), .val (.ref sp), .val (.int (4 : Int32)), .val (.int (3 : Int32)), .val (.int (5 : Int32))] [(.int x5)])) _
            refine XS.iloadN X5.here hx rfl (hb hby d3_29) rfl ?_
            show Steps p.tables e below (T5.setTop (mkF m 30 #[.val (.ref a1), .val (.int p2), .val (.ref sp), .val (.int (4 : Int32)), .val (.int (3 : Int32)), .val (.int (5 : Int32))] [(.int p2), (.int x5)])) _
            refine XS.icmpNo X5.here hx rfl (hb hby d3_30) rfl (teq (ht3 : x5 = p2)).2 ?_
            show Steps p.tables e below (T5.setTop (mkF m 33 #[.val (.ref a1), .val (.int p2), .val (.ref sp), .val (.int (4 : Int32)), .val (.int (3 : Int32)), .val (.int (5 : Int32))] [])) _
            refine XS.iconst X5.here hx rfl (hb hby d3_33) ?_
            show Steps p.tables e below (T5.setTop (mkF m 34 #[.val (.ref a1), .val (.int p2), .val (.ref sp), .val (.int (4 : Int32)), .val (.int (3 : Int32)), .val (.int (5 : Int32))] [(.int (1 : Int32))])) _
            exact retN X5 hx (t := .boolean) Bd.returns (by simp) (hb hby d3_34) hr
          · show Qrm3 Z a1 p2 b kA x0 x1 x2 x3 x4 x5 sp kS h0 n0 _ T5.heap _
            rw [e5]
            exact ⟨by rw [own_syn, if_neg ht0, if_neg ht1, if_neg ht2, if_pos ht3], N0, rfl⟩
        · obtain ⟨fs, hr, hrun, hended, hW, hsame⟩ := X5.leave (v := some (.int (0 : Int32))) (fun h => by rw [Bd.returns] at h; cases h)
          refine ⟨_, _, pre0 _ ?_, hrun, hended, _, _, rfl, ?_, ⟨_, rfl⟩, hW, hsame.mono (by decide) (by decide)⟩
          · show Steps p.tables e below (s₁.setTop (mkF m 0 #[.val (.ref a1), .val (.int p2), .unset, .unset, .unset, .unset] [])) _
            refine st1 _ ?_
            show Steps p.tables e below (T1.setTop (mkF m 3 #[.val (.ref a1), .val (.int p2), .unset, .unset, .unset, .unset] [(.ref sp)])) _
            refine XS.astoreN X1.here hx rfl (hb hby d3_3) rfl rfl (l' := #[.val (.ref a1), .val (.int p2), .val (.ref sp), .unset, .unset, .unset]) rfl ?_
            show Steps p.tables e below (T1.setTop (mkF m 4 #[.val (.ref a1), .val (.int p2), .val (.ref sp), .unset, .unset, .unset] [])) _
            refine XS.aloadN X1.here hx rfl (hb hby d3_4) rfl rfl ?_
            show Steps p.tables e below (T1.setTop (mkF m 5 #[.val (.ref a1), .val (.int p2), .val (.ref sp), .unset, .unset, .unset] [(.ref sp)])) _
            refine X1.arraylength hx (cell := cs) (by rw [e1]; exact As.1) (State.isArrayOf_alike hZ.alike As.2.1) (g := (mkF m 5 #[.val (.ref a1), .val (.int p2), .val (.ref sp), .unset, .unset, .unset] [(.ref sp)])) rfl (rest := []) rfl (hb hby d3_5) _ ?_
            rw [len_of Ss Ms]
            show Steps p.tables e below (T1.setTop (mkF m 6 #[.val (.ref a1), .val (.int p2), .val (.ref sp), .unset, .unset, .unset] [(.int (4 : Int32))])) _
            refine XS.istoreN X1.here hx rfl (hb hby d3_6) rfl (l' := #[.val (.ref a1), .val (.int p2), .val (.ref sp), .val (.int (4 : Int32)), .unset, .unset]) rfl ?_
            show Steps p.tables e below (T1.setTop (mkF m 7 #[.val (.ref a1), .val (.int p2), .val (.ref sp), .val (.int (4 : Int32)), .unset, .unset] [])) _
            refine XS.iconst X1.here hx rfl (hb hby d3_7) ?_
            show Steps p.tables e below (T1.setTop (mkF m 8 #[.val (.ref a1), .val (.int p2), .val (.ref sp), .val (.int (4 : Int32)), .unset, .unset] [(.int (0 : Int32))])) _
            refine XS.istore X1.here hx rfl (hb hby d3_8) rfl (l' := #[.val (.ref a1), .val (.int p2), .val (.ref sp), .val (.int (4 : Int32)), .val (.int (0 : Int32)), .unset]) rfl ?_
            show Steps p.tables e below (T1.setTop (mkF m 10 #[.val (.ref a1), .val (.int p2), .val (.ref sp), .val (.int (4 : Int32)), .val (.int (0 : Int32)), .unset] [])) _
            refine XS.iload X1.here hx rfl (hb hby d3_10) rfl ?_
            show Steps p.tables e below (T1.setTop (mkF m 12 #[.val (.ref a1), .val (.int p2), .val (.ref sp), .val (.int (4 : Int32)), .val (.int (0 : Int32)), .unset] [(.int (0 : Int32))])) _
            refine XS.iloadN X1.here hx rfl (hb hby d3_12) rfl ?_
            show Steps p.tables e below (T1.setTop (mkF m 13 #[.val (.ref a1), .val (.int p2), .val (.ref sp), .val (.int (4 : Int32)), .val (.int (0 : Int32)), .unset] [(.int (4 : Int32)), (.int (0 : Int32))])) _
            refine XS.icmpNo X1.here hx rfl (hb hby d3_13) rfl (tlt (by decide : (0 : Int32) < (4 : Int32))).2.1 ?_
            show Steps p.tables e below (T1.setTop (mkF m 16 #[.val (.ref a1), .val (.int p2), .val (.ref sp), .val (.int (4 : Int32)), .val (.int (0 : Int32)), .unset] [])) _
            refine XS.aloadN X1.here hx rfl (hb hby d3_16) rfl rfl ?_
            show Steps p.tables e below (T1.setTop (mkF m 17 #[.val (.ref a1), .val (.int p2), .val (.ref sp), .val (.int (4 : Int32)), .val (.int (0 : Int32)), .unset] [(.ref sp)])) _
            refine XS.iload X1.here hx rfl (hb hby d3_17) rfl ?_
            show Steps p.tables e below (T1.setTop (mkF m 19 #[.val (.ref a1), .val (.int p2), .val (.ref sp), .val (.int (4 : Int32)), .val (.int (0 : Int32)), .unset] [(.int (0 : Int32)), (.ref sp)])) _
            refine X1.iaload hx (j := (0 : Int32)) (v := (.int (0 : Int32))) (by rw [e1]; exact As.1) (State.isArrayOf_alike hZ.alike As.2.1) As.2.2 his0 has0 (g := (mkF m 19 #[.val (.ref a1), .val (.int p2), .val (.ref sp), .val (.int (4 : Int32)), .val (.int (0 : Int32)), .unset] [(.int (0 : Int32)), (.ref sp)])) rfl rfl (hb hby d3_19) _ ?_
            show Steps p.tables e below (T1.setTop (mkF m 20 #[.val (.ref a1), .val (.int p2), .val (.ref sp), .val (.int (4 : Int32)), .val (.int (0 : Int32)), .unset] [(.int (0 : Int32))])) _
            refine XS.istore X1.here hx rfl (hb hby d3_20) rfl (l' := #[.val (.ref a1), .val (.int p2), .val (.ref sp), .val (.int (4 : Int32)), .val (.int (0 : Int32)), .val (.int (0 : Int32))]) rfl ?_
            show Steps p.tables e below (T1.setTop (mkF m 22 #[.val (.ref a1), .val (.int p2), .val (.ref sp), .val (.int (4 : Int32)), .val (.int (0 : Int32)), .val (.int (0 : Int32))] [])) _
            refine XS.aloadN X1.here hx rfl (hb hby d3_22) rfl rfl ?_
            show Steps p.tables e below (T1.setTop (mkF m 23 #[.val (.ref a1), .val (.int p2), .val (.ref sp), .val (.int (4 : Int32)), .val (.int (0 : Int32)), .val (.int (0 : Int32))] [(.ref a1)])) _
            refine st2 _ ?_
            show Steps p.tables e below (T2.setTop (mkF m 26 #[.val (.ref a1), .val (.int p2), .val (.ref sp), .val (.int (4 : Int32)), .val (.int (0 : Int32)), .val (.int (0 : Int32))] [(.ref b)])) _
            refine XS.iload X2.here hx rfl (hb hby d3_26) rfl ?_
            show Steps p.tables e below (T2.setTop (mkF m 28 #[.val (.ref a1), .val (.int p2), .val (.ref sp), .val (.int (4 : Int32)), .val (.int (0 : Int32)), .val (.int (0 : Int32))] [(.int (0 : Int32)), (.ref b)])) _
            refine X2.caload hx (j := (0 : Int32)) (v := (.int x0)) (by rw [e2]; exact Ar.1) (State.isArrayOf_alike hZ.alike Ar.2.1) Ar.2.2 hic0 hac0 (g := (mkF m 28 #[.val (.ref a1), .val (.int p2), .val (.ref sp), .val (.int (4 : Int32)), .val (.int (0 : Int32)), .val (.int (0 : Int32))] [(.int (0 : Int32)), (.ref b)])) rfl rfl (hb hby d3_28) _ ?_
            show Steps p.tables e below (T2.setTop (mkF m 29 #[.val (.ref a1), .val (.int p2), .val (.ref sp), .val (.int (4 : Int32)), .val (.int (0 : Int32)), .val (.int (0 : Int32))] [(.int x0)])) _
            refine XS.iloadN X2.here hx rfl (hb hby d3_29) rfl ?_
            show Steps p.tables e below (T2.setTop (mkF m 30 #[.val (.ref a1), .val (.int p2), .val (.ref sp), .val (.int (4 : Int32)), .val (.int (0 : Int32)), .val (.int (0 : Int32))] [(.int p2), (.int x0)])) _
            refine XS.icmpYes X2.here hx rfl (pc0 := 30) (pc' := 35) rfl (hb hby d3_30) rfl (feq (ht0 : ¬ (x0 = p2))).2 (by decide) (by decide) ?_
            show Steps p.tables e below (T2.setTop (mkF m 35 #[.val (.ref a1), .val (.int p2), .val (.ref sp), .val (.int (4 : Int32)), .val (.int (0 : Int32)), .val (.int (0 : Int32))] [])) _
            refine XS.iinc X2.here hx rfl (hb hby d3_35) rfl (l' := #[.val (.ref a1), .val (.int p2), .val (.ref sp), .val (.int (4 : Int32)), .val (.int (1 : Int32)), .val (.int (0 : Int32))]) rfl ?_
            show Steps p.tables e below (T2.setTop (mkF m 38 #[.val (.ref a1), .val (.int p2), .val (.ref sp), .val (.int (4 : Int32)), .val (.int (1 : Int32)), .val (.int (0 : Int32))] [])) _
            refine XS.goto X2.here hx rfl (pc0 := 38) (pc' := 10) rfl (hb hby d3_38) (by decide) (by decide) ?_
            show Steps p.tables e below (T2.setTop (mkF m 10 #[.val (.ref a1), .val (.int p2), .val (.ref sp), .val (.int (4 : Int32)), .val (.int (1 : Int32)), .val (.int (0 : Int32))] [])) _
            refine XS.iload X2.here hx rfl (hb hby d3_10) rfl ?_
            show Steps p.tables e below (T2.setTop (mkF m 12 #[.val (.ref a1), .val (.int p2), .val (.ref sp), .val (.int (4 : Int32)), .val (.int (1 : Int32)), .val (.int (0 : Int32))] [(.int (1 : Int32))])) _
            refine XS.iloadN X2.here hx rfl (hb hby d3_12) rfl ?_
            show Steps p.tables e below (T2.setTop (mkF m 13 #[.val (.ref a1), .val (.int p2), .val (.ref sp), .val (.int (4 : Int32)), .val (.int (1 : Int32)), .val (.int (0 : Int32))] [(.int (4 : Int32)), (.int (1 : Int32))])) _
            refine XS.icmpNo X2.here hx rfl (hb hby d3_13) rfl (tlt (by decide : (1 : Int32) < (4 : Int32))).2.1 ?_
            show Steps p.tables e below (T2.setTop (mkF m 16 #[.val (.ref a1), .val (.int p2), .val (.ref sp), .val (.int (4 : Int32)), .val (.int (1 : Int32)), .val (.int (0 : Int32))] [])) _
            refine XS.aloadN X2.here hx rfl (hb hby d3_16) rfl rfl ?_
            show Steps p.tables e below (T2.setTop (mkF m 17 #[.val (.ref a1), .val (.int p2), .val (.ref sp), .val (.int (4 : Int32)), .val (.int (1 : Int32)), .val (.int (0 : Int32))] [(.ref sp)])) _
            refine XS.iload X2.here hx rfl (hb hby d3_17) rfl ?_
            show Steps p.tables e below (T2.setTop (mkF m 19 #[.val (.ref a1), .val (.int p2), .val (.ref sp), .val (.int (4 : Int32)), .val (.int (1 : Int32)), .val (.int (0 : Int32))] [(.int (1 : Int32)), (.ref sp)])) _
            refine X2.iaload hx (j := (1 : Int32)) (v := (.int (1 : Int32))) (by rw [e2]; exact As.1) (State.isArrayOf_alike hZ.alike As.2.1) As.2.2 his1 has1 (g := (mkF m 19 #[.val (.ref a1), .val (.int p2), .val (.ref sp), .val (.int (4 : Int32)), .val (.int (1 : Int32)), .val (.int (0 : Int32))] [(.int (1 : Int32)), (.ref sp)])) rfl rfl (hb hby d3_19) _ ?_
            show Steps p.tables e below (T2.setTop (mkF m 20 #[.val (.ref a1), .val (.int p2), .val (.ref sp), .val (.int (4 : Int32)), .val (.int (1 : Int32)), .val (.int (0 : Int32))] [(.int (1 : Int32))])) _
            refine XS.istore X2.here hx rfl (hb hby d3_20) rfl (l' := #[.val (.ref a1), .val (.int p2), .val (.ref sp), .val (.int (4 : Int32)), .val (.int (1 : Int32)), .val (.int (1 : Int32))]) rfl ?_
            show Steps p.tables e below (T2.setTop (mkF m 22 #[.val (.ref a1), .val (.int p2), .val (.ref sp), .val (.int (4 : Int32)), .val (.int (1 : Int32)), .val (.int (1 : Int32))] [])) _
            refine XS.aloadN X2.here hx rfl (hb hby d3_22) rfl rfl ?_
            show Steps p.tables e below (T2.setTop (mkF m 23 #[.val (.ref a1), .val (.int p2), .val (.ref sp), .val (.int (4 : Int32)), .val (.int (1 : Int32)), .val (.int (1 : Int32))] [(.ref a1)])) _
            refine st3 _ ?_
            show Steps p.tables e below (T3.setTop (mkF m 26 #[.val (.ref a1), .val (.int p2), .val (.ref sp), .val (.int (4 : Int32)), .val (.int (1 : Int32)), .val (.int (1 : Int32))] [(.ref b)])) _
            refine XS.iload X3.here hx rfl (hb hby d3_26) rfl ?_
            show Steps p.tables e below (T3.setTop (mkF m 28 #[.val (.ref a1), .val (.int p2), .val (.ref sp), .val (.int (4 : Int32)), .val (.int (1 : Int32)), .val (.int (1 : Int32))] [(.int (1 : Int32)), (.ref b)])) _
            refine X3.caload hx (j := (1 : Int32)) (v := (.int x1)) (by rw [e3]; exact Ar.1) (State.isArrayOf_alike hZ.alike Ar.2.1) Ar.2.2 hic1 hac1 (g := (mkF m 28 #[.val (.ref a1), .val (.int p2), .val (.ref sp), .val (.int (4 : Int32)), .val (.int (1 : Int32)), .val (.int (1 : Int32))] [(.int (1 : Int32)), (.ref b)])) rfl rfl (hb hby d3_28) _ ?_
            show Steps p.tables e below (T3.setTop (mkF m 29 #[.val (.ref a1), .val (.int p2), .val (.ref sp), .val (.int (4 : Int32)), .val (.int (1 : Int32)), .val (.int (1 : Int32))] [(.int x1)])) _
            refine XS.iloadN X3.here hx rfl (hb hby d3_29) rfl ?_
            show Steps p.tables e below (T3.setTop (mkF m 30 #[.val (.ref a1), .val (.int p2), .val (.ref sp), .val (.int (4 : Int32)), .val (.int (1 : Int32)), .val (.int (1 : Int32))] [(.int p2), (.int x1)])) _
            refine XS.icmpYes X3.here hx rfl (pc0 := 30) (pc' := 35) rfl (hb hby d3_30) rfl (feq (ht1 : ¬ (x1 = p2))).2 (by decide) (by decide) ?_
            show Steps p.tables e below (T3.setTop (mkF m 35 #[.val (.ref a1), .val (.int p2), .val (.ref sp), .val (.int (4 : Int32)), .val (.int (1 : Int32)), .val (.int (1 : Int32))] [])) _
            refine XS.iinc X3.here hx rfl (hb hby d3_35) rfl (l' := #[.val (.ref a1), .val (.int p2), .val (.ref sp), .val (.int (4 : Int32)), .val (.int (2 : Int32)), .val (.int (1 : Int32))]) rfl ?_
            show Steps p.tables e below (T3.setTop (mkF m 38 #[.val (.ref a1), .val (.int p2), .val (.ref sp), .val (.int (4 : Int32)), .val (.int (2 : Int32)), .val (.int (1 : Int32))] [])) _
            refine XS.goto X3.here hx rfl (pc0 := 38) (pc' := 10) rfl (hb hby d3_38) (by decide) (by decide) ?_
            show Steps p.tables e below (T3.setTop (mkF m 10 #[.val (.ref a1), .val (.int p2), .val (.ref sp), .val (.int (4 : Int32)), .val (.int (2 : Int32)), .val (.int (1 : Int32))] [])) _
            refine XS.iload X3.here hx rfl (hb hby d3_10) rfl ?_
            show Steps p.tables e below (T3.setTop (mkF m 12 #[.val (.ref a1), .val (.int p2), .val (.ref sp), .val (.int (4 : Int32)), .val (.int (2 : Int32)), .val (.int (1 : Int32))] [(.int (2 : Int32))])) _
            refine XS.iloadN X3.here hx rfl (hb hby d3_12) rfl ?_
            show Steps p.tables e below (T3.setTop (mkF m 13 #[.val (.ref a1), .val (.int p2), .val (.ref sp), .val (.int (4 : Int32)), .val (.int (2 : Int32)), .val (.int (1 : Int32))] [(.int (4 : Int32)), (.int (2 : Int32))])) _
            refine XS.icmpNo X3.here hx rfl (hb hby d3_13) rfl (tlt (by decide : (2 : Int32) < (4 : Int32))).2.1 ?_
            show Steps p.tables e below (T3.setTop (mkF m 16 #[.val (.ref a1), .val (.int p2), .val (.ref sp), .val (.int (4 : Int32)), .val (.int (2 : Int32)), .val (.int (1 : Int32))] [])) _
            refine XS.aloadN X3.here hx rfl (hb hby d3_16) rfl rfl ?_
            show Steps p.tables e below (T3.setTop (mkF m 17 #[.val (.ref a1), .val (.int p2), .val (.ref sp), .val (.int (4 : Int32)), .val (.int (2 : Int32)), .val (.int (1 : Int32))] [(.ref sp)])) _
            refine XS.iload X3.here hx rfl (hb hby d3_17) rfl ?_
            show Steps p.tables e below (T3.setTop (mkF m 19 #[.val (.ref a1), .val (.int p2), .val (.ref sp), .val (.int (4 : Int32)), .val (.int (2 : Int32)), .val (.int (1 : Int32))] [(.int (2 : Int32)), (.ref sp)])) _
            refine X3.iaload hx (j := (2 : Int32)) (v := (.int (3 : Int32))) (by rw [e3]; exact As.1) (State.isArrayOf_alike hZ.alike As.2.1) As.2.2 his2 has2 (g := (mkF m 19 #[.val (.ref a1), .val (.int p2), .val (.ref sp), .val (.int (4 : Int32)), .val (.int (2 : Int32)), .val (.int (1 : Int32))] [(.int (2 : Int32)), (.ref sp)])) rfl rfl (hb hby d3_19) _ ?_
            show Steps p.tables e below (T3.setTop (mkF m 20 #[.val (.ref a1), .val (.int p2), .val (.ref sp), .val (.int (4 : Int32)), .val (.int (2 : Int32)), .val (.int (1 : Int32))] [(.int (3 : Int32))])) _
            refine XS.istore X3.here hx rfl (hb hby d3_20) rfl (l' := #[.val (.ref a1), .val (.int p2), .val (.ref sp), .val (.int (4 : Int32)), .val (.int (2 : Int32)), .val (.int (3 : Int32))]) rfl ?_
            show Steps p.tables e below (T3.setTop (mkF m 22 #[.val (.ref a1), .val (.int p2), .val (.ref sp), .val (.int (4 : Int32)), .val (.int (2 : Int32)), .val (.int (3 : Int32))] [])) _
            refine XS.aloadN X3.here hx rfl (hb hby d3_22) rfl rfl ?_
            show Steps p.tables e below (T3.setTop (mkF m 23 #[.val (.ref a1), .val (.int p2), .val (.ref sp), .val (.int (4 : Int32)), .val (.int (2 : Int32)), .val (.int (3 : Int32))] [(.ref a1)])) _
            refine st4 _ ?_
            show Steps p.tables e below (T4.setTop (mkF m 26 #[.val (.ref a1), .val (.int p2), .val (.ref sp), .val (.int (4 : Int32)), .val (.int (2 : Int32)), .val (.int (3 : Int32))] [(.ref b)])) _
            refine XS.iload X4.here hx rfl (hb hby d3_26) rfl ?_
            show Steps p.tables e below (T4.setTop (mkF m 28 #[.val (.ref a1), .val (.int p2), .val (.ref sp), .val (.int (4 : Int32)), .val (.int (2 : Int32)), .val (.int (3 : Int32))] [(.int (3 : Int32)), (.ref b)])) _
            refine X4.caload hx (j := (3 : Int32)) (v := (.int x3)) (by rw [e4]; exact Ar.1) (State.isArrayOf_alike hZ.alike Ar.2.1) Ar.2.2 hic3 hac3 (g := (mkF m 28 #[.val (.ref a1), .val (.int p2), .val (.ref sp), .val (.int (4 : Int32)), .val (.int (2 : Int32)), .val (.int (3 : Int32))] [(.int (3 : Int32)), (.ref b)])) rfl rfl (hb hby d3_28) _ ?_
            show Steps p.tables e below (T4.setTop (mkF m 29 #[.val (.ref a1), .val (.int p2), .val (.ref sp), .val (.int (4 : Int32)), .val (.int (2 : Int32)), .val (.int (3 : Int32))] [(.int x3)])) _
            refine XS.iloadN X4.here hx rfl (hb hby d3_29) rfl ?_
            show Steps p.tables e below (T4.setTop (mkF m 30 #[.val (.ref a1), .val (.int p2), .val (.ref sp), .val (.int (4 : Int32)), .val (.int (2 : Int32)), .val (.int (3 : Int32))] [(.int p2), (.int x3)])) _
            refine XS.icmpYes X4.here hx rfl (pc0 := 30) (pc' := 35) rfl (hb hby d3_30) rfl (feq (ht2 : ¬ (x3 = p2))).2 (by decide) (by decide) ?_
            show Steps p.tables e below (T4.setTop (mkF m 35 #[.val (.ref a1), .val (.int p2), .val (.ref sp), .val (.int (4 : Int32)), .val (.int (2 : Int32)), .val (.int (3 : Int32))] [])) _
            refine XS.iinc X4.here hx rfl (hb hby d3_35) rfl (l' := #[.val (.ref a1), .val (.int p2), .val (.ref sp), .val (.int (4 : Int32)), .val (.int (3 : Int32)), .val (.int (3 : Int32))]) rfl ?_
            show Steps p.tables e below (T4.setTop (mkF m 38 #[.val (.ref a1), .val (.int p2), .val (.ref sp), .val (.int (4 : Int32)), .val (.int (3 : Int32)), .val (.int (3 : Int32))] [])) _
            refine XS.goto X4.here hx rfl (pc0 := 38) (pc' := 10) rfl (hb hby d3_38) (by decide) (by decide) ?_
            show Steps p.tables e below (T4.setTop (mkF m 10 #[.val (.ref a1), .val (.int p2), .val (.ref sp), .val (.int (4 : Int32)), .val (.int (3 : Int32)), .val (.int (3 : Int32))] [])) _
            refine XS.iload X4.here hx rfl (hb hby d3_10) rfl ?_
            show Steps p.tables e below (T4.setTop (mkF m 12 #[.val (.ref a1), .val (.int p2), .val (.ref sp), .val (.int (4 : Int32)), .val (.int (3 : Int32)), .val (.int (3 : Int32))] [(.int (3 : Int32))])) _
            refine XS.iloadN X4.here hx rfl (hb hby d3_12) rfl ?_
            show Steps p.tables e below (T4.setTop (mkF m 13 #[.val (.ref a1), .val (.int p2), .val (.ref sp), .val (.int (4 : Int32)), .val (.int (3 : Int32)), .val (.int (3 : Int32))] [(.int (4 : Int32)), (.int (3 : Int32))])) _
            refine XS.icmpNo X4.here hx rfl (hb hby d3_13) rfl (tlt (by decide : (3 : Int32) < (4 : Int32))).2.1 ?_
            show Steps p.tables e below (T4.setTop (mkF m 16 #[.val (.ref a1), .val (.int p2), .val (.ref sp), .val (.int (4 : Int32)), .val (.int (3 : Int32)), .val (.int (3 : Int32))] [])) _
            refine XS.aloadN X4.here hx rfl (hb hby d3_16) rfl rfl ?_
            show Steps p.tables e below (T4.setTop (mkF m 17 #[.val (.ref a1), .val (.int p2), .val (.ref sp), .val (.int (4 : Int32)), .val (.int (3 : Int32)), .val (.int (3 : Int32))] [(.ref sp)])) _
            refine XS.iload X4.here hx rfl (hb hby d3_17) rfl ?_
            show Steps p.tables e below (T4.setTop (mkF m 19 #[.val (.ref a1), .val (.int p2), .val (.ref sp), .val (.int (4 : Int32)), .val (.int (3 : Int32)), .val (.int (3 : Int32))] [(.int (3 : Int32)), (.ref sp)])) _
            refine X4.iaload hx (j := (3 : Int32)) (v := (.int (5 : Int32))) (by rw [e4]; exact As.1) (State.isArrayOf_alike hZ.alike As.2.1) As.2.2 his3 has3 (g := (mkF m 19 #[.val (.ref a1), .val (.int p2), .val (.ref sp), .val (.int (4 : Int32)), .val (.int (3 : Int32)), .val (.int (3 : Int32))] [(.int (3 : Int32)), (.ref sp)])) rfl rfl (hb hby d3_19) _ ?_
            show Steps p.tables e below (T4.setTop (mkF m 20 #[.val (.ref a1), .val (.int p2), .val (.ref sp), .val (.int (4 : Int32)), .val (.int (3 : Int32)), .val (.int (3 : Int32))] [(.int (5 : Int32))])) _
            refine XS.istore X4.here hx rfl (hb hby d3_20) rfl (l' := #[.val (.ref a1), .val (.int p2), .val (.ref sp), .val (.int (4 : Int32)), .val (.int (3 : Int32)), .val (.int (5 : Int32))]) rfl ?_
            show Steps p.tables e below (T4.setTop (mkF m 22 #[.val (.ref a1), .val (.int p2), .val (.ref sp), .val (.int (4 : Int32)), .val (.int (3 : Int32)), .val (.int (5 : Int32))] [])) _
            refine XS.aloadN X4.here hx rfl (hb hby d3_22) rfl rfl ?_
            show Steps p.tables e below (T4.setTop (mkF m 23 #[.val (.ref a1), .val (.int p2), .val (.ref sp), .val (.int (4 : Int32)), .val (.int (3 : Int32)), .val (.int (5 : Int32))] [(.ref a1)])) _
            refine st5 _ ?_
            show Steps p.tables e below (T5.setTop (mkF m 26 #[.val (.ref a1), .val (.int p2), .val (.ref sp), .val (.int (4 : Int32)), .val (.int (3 : Int32)), .val (.int (5 : Int32))] [(.ref b)])) _
            refine XS.iload X5.here hx rfl (hb hby d3_26) rfl ?_
            show Steps p.tables e below (T5.setTop (mkF m 28 #[.val (.ref a1), .val (.int p2), .val (.ref sp), .val (.int (4 : Int32)), .val (.int (3 : Int32)), .val (.int (5 : Int32))] [(.int (5 : Int32)), (.ref b)])) _
            refine X5.caload hx (j := (5 : Int32)) (v := (.int x5)) (by rw [e5]; exact Ar.1) (State.isArrayOf_alike hZ.alike Ar.2.1) Ar.2.2 hic5 hac5 (g := (mkF m 28 #[.val (.ref a1), .val (.int p2), .val (.ref sp), .val (.int (4 : Int32)), .val (.int (3 : Int32)), .val (.int (5 : Int32))] [(.int (5 : Int32)), (.ref b)])) rfl rfl (hb hby d3_28) _ ?_
            show Steps p.tables e below (T5.setTop (mkF m 29 #[.val (.ref a1), .val (.int p2), .val (.ref sp), .val (.int (4 : Int32)), .val (.int (3 : Int32)), .val (.int (5 : Int32))] [(.int x5)])) _
            refine XS.iloadN X5.here hx rfl (hb hby d3_29) rfl ?_
            show Steps p.tables e below (T5.setTop (mkF m 30 #[.val (.ref a1), .val (.int p2), .val (.ref sp), .val (.int (4 : Int32)), .val (.int (3 : Int32)), .val (.int (5 : Int32))] [(.int p2), (.int x5)])) _
            refine XS.icmpYes X5.here hx rfl (pc0 := 30) (pc' := 35) rfl (hb hby d3_30) rfl (feq (ht3 : ¬ (x5 = p2))).2 (by decide) (by decide) ?_
            show Steps p.tables e below (T5.setTop (mkF m 35 #[.val (.ref a1), .val (.int p2), .val (.ref sp), .val (.int (4 : Int32)), .val (.int (3 : Int32)), .val (.int (5 : Int32))] [])) _
            refine XS.iinc X5.here hx rfl (hb hby d3_35) rfl (l' := #[.val (.ref a1), .val (.int p2), .val (.ref sp), .val (.int (4 : Int32)), .val (.int (4 : Int32)), .val (.int (5 : Int32))]) rfl ?_
            show Steps p.tables e below (T5.setTop (mkF m 38 #[.val (.ref a1), .val (.int p2), .val (.ref sp), .val (.int (4 : Int32)), .val (.int (4 : Int32)), .val (.int (5 : Int32))] [])) _
            refine XS.goto X5.here hx rfl (pc0 := 38) (pc' := 10) rfl (hb hby d3_38) (by decide) (by decide) ?_
            show Steps p.tables e below (T5.setTop (mkF m 10 #[.val (.ref a1), .val (.int p2), .val (.ref sp), .val (.int (4 : Int32)), .val (.int (4 : Int32)), .val (.int (5 : Int32))] [])) _
            refine XS.iload X5.here hx rfl (hb hby d3_10) rfl ?_
            show Steps p.tables e below (T5.setTop (mkF m 12 #[.val (.ref a1), .val (.int p2), .val (.ref sp), .val (.int (4 : Int32)), .val (.int (4 : Int32)), .val (.int (5 : Int32))] [(.int (4 : Int32))])) _
            refine XS.iloadN X5.here hx rfl (hb hby d3_12) rfl ?_
            show Steps p.tables e below (T5.setTop (mkF m 13 #[.val (.ref a1), .val (.int p2), .val (.ref sp), .val (.int (4 : Int32)), .val (.int (4 : Int32)), .val (.int (5 : Int32))] [(.int (4 : Int32)), (.int (4 : Int32))])) _
            refine XS.icmpYes X5.here hx rfl (pc0 := 13) (pc' := 41) rfl (hb hby d3_13) rfl (flt (by decide : ¬ ((4 : Int32) < (4 : Int32)))).2.1 (by decide) (by decide) ?_
            show Steps p.tables e below (T5.setTop (mkF m 41 #[.val (.ref a1), .val (.int p2), .val (.ref sp), .val (.int (4 : Int32)), .val (.int (4 : Int32)), .val (.int (5 : Int32))] [])) _
            refine XS.iconst X5.here hx rfl (hb hby d3_41) ?_
            show Steps p.tables e below (T5.setTop (mkF m 42 #[.val (.ref a1), .val (.int p2), .val (.ref sp), .val (.int (4 : Int32)), .val (.int (4 : Int32)), .val (.int (5 : Int32))] [(.int (0 : Int32))])) _
            exact retN X5 hx (t := .boolean) Bd.returns (by simp) (hb hby d3_42) hr
          · show Qrm3 Z a1 p2 b kA x0 x1 x2 x3 x4 x5 sp kS h0 n0 _ T5.heap _
            rw [e5]
            exact ⟨by rw [own_syn, if_neg ht0, if_neg ht1, if_neg ht2, if_neg ht3], N0, rfl⟩
def own_pick (sel c0 c1 c2 c3 c4 c5 fr : Int32) : Int32 := (if sel = (0 : Int32) then c0 else (if sel = (1 : Int32) then c1 else (if sel = (2 : Int32) then c2 else (if sel = (3 : Int32) then c3 else (if sel = (4 : Int32) then c4 else (if sel = (5 : Int32) then c5 else fr))))))
set_option maxRecDepth 65536 in
set_option maxHeartbeats 40000000 in
theorem own_seg1 {p : Program} {l : Launch} {e : Env} {R : Room} {s : State} {m : MethodId} {args : Array Value} {below : List Frame} {meth : Method} {c : Code} {T0 : State} {locs : List Loc} {cells slots : Nat} {Z : State} {a0 : Array Value} {h0 : Heap} (p1 p2 p3 p4 c0 c1 c2 c3 c4 c5 fr sel : Int32)
    (X0 : Stand p l e R s m args below meth c T0 locs cells slots) (hx : p.tables.exec = Jvm.exec) (hZ : Z.Warmed39 s.vm) (hw : ∀ d ∈ tables_1, d.before a0 Z = true) (hby : c.code = code) (hml : c.maxLocals = 15) (hown : s.vm.findClass "com/example/fjordwire/fjordwire/model/ServiceCharactersIsSyntaxCharacterPinLaw" = some m.cls) (e0 : T0.heap = h0)  :
    ∀ target, Steps p.tables e below (T0.setTop (mkF m 127 #[.val (.int p1), .val (.int p2), .val (.int p3), .val (.int p4), .val (.int c0), .val (.int c1), .val (.int c2), .val (.int c3), .val (.int c4), .val (.int c5), .val (.int fr), .val (.int sel), .val (.int (if sel = (0 : Int32) then c0 else (if sel = (1 : Int32) then c1 else (if sel = (2 : Int32) then c2 else (if sel = (3 : Int32) then c3 else (if sel = (4 : Int32) then c4 else (if sel = (5 : Int32) then c5 else fr))))))), .unset, .unset] [])) target → Steps p.tables e below (T0.setTop (mkF m 46 #[.val (.int p1), .val (.int p2), .val (.int p3), .val (.int p4), .val (.int c0), .val (.int c1), .val (.int c2), .val (.int c3), .val (.int c4), .val (.int c5), .val (.int fr), .val (.int sel), .unset, .unset, .unset] [])) target := by
  intro target kt
  show Steps p.tables e below (T0.setTop (mkF m 46 #[.val (.int p1), .val (.int p2), .val (.int p3), .val (.int p4), .val (.int c0), .val (.int c1), .val (.int c2), .val (.int c3), .val (.int c4), .val (.int c5), .val (.int fr), .val (.int sel), .unset, .unset, .unset] [])) _
  refine XS.iload X0.here hx rfl (hb hby at_46) rfl ?_
  by_cases ht0 : sel = (0 : Int32)
  · rw [if_pos ht0] at kt
    show Steps p.tables e below (T0.setTop (mkF m 48 #[.val (.int p1), .val (.int p2), .val (.int p3), .val (.int p4), .val (.int c0), .val (.int c1), .val (.int c2), .val (.int c3), .val (.int c4), .val (.int c5), .val (.int fr), .val (.int sel), .unset, .unset, .unset] [(.int sel)])) _
    refine XS.ifNo X0.here hx rfl (hb hby at_48) rfl ((if0 _ _).trans (teq (ht0 : sel = (0 : Int32))).2) ?_
    show Steps p.tables e below (T0.setTop (mkF m 51 #[.val (.int p1), .val (.int p2), .val (.int p3), .val (.int p4), .val (.int c0), .val (.int c1), .val (.int c2), .val (.int c3), .val (.int c4), .val (.int c5), .val (.int fr), .val (.int sel), .unset, .unset, .unset] [])) _
    refine XS.iload X0.here hx rfl (hb hby at_51) rfl ?_
    show Steps p.tables e below (T0.setTop (mkF m 53 #[.val (.int p1), .val (.int p2), .val (.int p3), .val (.int p4), .val (.int c0), .val (.int c1), .val (.int c2), .val (.int c3), .val (.int c4), .val (.int c5), .val (.int fr), .val (.int sel), .unset, .unset, .unset] [(.int c0)])) _
    refine XS.istore X0.here hx rfl (hb hby at_53) rfl (l' := #[.val (.int p1), .val (.int p2), .val (.int p3), .val (.int p4), .val (.int c0), .val (.int c1), .val (.int c2), .val (.int c3), .val (.int c4), .val (.int c5), .val (.int fr), .val (.int sel), .val (.int c0), .unset, .unset]) rfl ?_
    show Steps p.tables e below (T0.setTop (mkF m 55 #[.val (.int p1), .val (.int p2), .val (.int p3), .val (.int p4), .val (.int c0), .val (.int c1), .val (.int c2), .val (.int c3), .val (.int c4), .val (.int c5), .val (.int fr), .val (.int sel), .val (.int c0), .unset, .unset] [])) _
    refine XS.goto X0.here hx rfl (pc0 := 55) (pc' := 127) rfl (hb hby at_55) (by decide) (by decide) ?_
    exact kt
  · rw [if_neg ht0] at kt
    show Steps p.tables e below (T0.setTop (mkF m 48 #[.val (.int p1), .val (.int p2), .val (.int p3), .val (.int p4), .val (.int c0), .val (.int c1), .val (.int c2), .val (.int c3), .val (.int c4), .val (.int c5), .val (.int fr), .val (.int sel), .unset, .unset, .unset] [(.int sel)])) _
    refine XS.ifYes X0.here hx rfl (pc0 := 48) (pc' := 58) rfl (hb hby at_48) rfl ((if0 _ _).trans (feq (ht0 : ¬ (sel = (0 : Int32)))).2) (by decide) (by decide) ?_
    show Steps p.tables e below (T0.setTop (mkF m 58 #[.val (.int p1), .val (.int p2), .val (.int p3), .val (.int p4), .val (.int c0), .val (.int c1), .val (.int c2), .val (.int c3), .val (.int c4), .val (.int c5), .val (.int fr), .val (.int sel), .unset, .unset, .unset] [])) _
    refine XS.iload X0.here hx rfl (hb hby at_58) rfl ?_
    show Steps p.tables e below (T0.setTop (mkF m 60 #[.val (.int p1), .val (.int p2), .val (.int p3), .val (.int p4), .val (.int c0), .val (.int c1), .val (.int c2), .val (.int c3), .val (.int c4), .val (.int c5), .val (.int fr), .val (.int sel), .unset, .unset, .unset] [(.int sel)])) _
    refine XS.iconst X0.here hx rfl (hb hby at_60) ?_
    by_cases ht1 : sel = (1 : Int32)
    · rw [if_pos ht1] at kt
      show Steps p.tables e below (T0.setTop (mkF m 61 #[.val (.int p1), .val (.int p2), .val (.int p3), .val (.int p4), .val (.int c0), .val (.int c1), .val (.int c2), .val (.int c3), .val (.int c4), .val (.int c5), .val (.int fr), .val (.int sel), .unset, .unset, .unset] [(.int (1 : Int32)), (.int sel)])) _
      refine XS.icmpNo X0.here hx rfl (hb hby at_61) rfl (teq (ht1 : sel = (1 : Int32))).2 ?_
      show Steps p.tables e below (T0.setTop (mkF m 64 #[.val (.int p1), .val (.int p2), .val (.int p3), .val (.int p4), .val (.int c0), .val (.int c1), .val (.int c2), .val (.int c3), .val (.int c4), .val (.int c5), .val (.int fr), .val (.int sel), .unset, .unset, .unset] [])) _
      refine XS.iload X0.here hx rfl (hb hby at_64) rfl ?_
      show Steps p.tables e below (T0.setTop (mkF m 66 #[.val (.int p1), .val (.int p2), .val (.int p3), .val (.int p4), .val (.int c0), .val (.int c1), .val (.int c2), .val (.int c3), .val (.int c4), .val (.int c5), .val (.int fr), .val (.int sel), .unset, .unset, .unset] [(.int c1)])) _
      refine XS.istore X0.here hx rfl (hb hby at_66) rfl (l' := #[.val (.int p1), .val (.int p2), .val (.int p3), .val (.int p4), .val (.int c0), .val (.int c1), .val (.int c2), .val (.int c3), .val (.int c4), .val (.int c5), .val (.int fr), .val (.int sel), .val (.int c1), .unset, .unset]) rfl ?_
      show Steps p.tables e below (T0.setTop (mkF m 68 #[.val (.int p1), .val (.int p2), .val (.int p3), .val (.int p4), .val (.int c0), .val (.int c1), .val (.int c2), .val (.int c3), .val (.int c4), .val (.int c5), .val (.int fr), .val (.int sel), .val (.int c1), .unset, .unset] [])) _
      refine XS.goto X0.here hx rfl (pc0 := 68) (pc' := 127) rfl (hb hby at_68) (by decide) (by decide) ?_
      exact kt
    · rw [if_neg ht1] at kt
      show Steps p.tables e below (T0.setTop (mkF m 61 #[.val (.int p1), .val (.int p2), .val (.int p3), .val (.int p4), .val (.int c0), .val (.int c1), .val (.int c2), .val (.int c3), .val (.int c4), .val (.int c5), .val (.int fr), .val (.int sel), .unset, .unset, .unset] [(.int (1 : Int32)), (.int sel)])) _
      refine XS.icmpYes X0.here hx rfl (pc0 := 61) (pc' := 71) rfl (hb hby at_61) rfl (feq (ht1 : ¬ (sel = (1 : Int32)))).2 (by decide) (by decide) ?_
      show Steps p.tables e below (T0.setTop (mkF m 71 #[.val (.int p1), .val (.int p2), .val (.int p3), .val (.int p4), .val (.int c0), .val (.int c1), .val (.int c2), .val (.int c3), .val (.int c4), .val (.int c5), .val (.int fr), .val (.int sel), .unset, .unset, .unset] [])) _
      refine XS.iload X0.here hx rfl (hb hby at_71) rfl ?_
      show Steps p.tables e below (T0.setTop (mkF m 73 #[.val (.int p1), .val (.int p2), .val (.int p3), .val (.int p4), .val (.int c0), .val (.int c1), .val (.int c2), .val (.int c3), .val (.int c4), .val (.int c5), .val (.int fr), .val (.int sel), .unset, .unset, .unset] [(.int sel)])) _
      refine XS.iconst X0.here hx rfl (hb hby at_73) ?_
      by_cases ht2 : sel = (2 : Int32)
      · rw [if_pos ht2] at kt
        show Steps p.tables e below (T0.setTop (mkF m 74 #[.val (.int p1), .val (.int p2), .val (.int p3), .val (.int p4), .val (.int c0), .val (.int c1), .val (.int c2), .val (.int c3), .val (.int c4), .val (.int c5), .val (.int fr), .val (.int sel), .unset, .unset, .unset] [(.int (2 : Int32)), (.int sel)])) _
        refine XS.icmpNo X0.here hx rfl (hb hby at_74) rfl (teq (ht2 : sel = (2 : Int32))).2 ?_
        show Steps p.tables e below (T0.setTop (mkF m 77 #[.val (.int p1), .val (.int p2), .val (.int p3), .val (.int p4), .val (.int c0), .val (.int c1), .val (.int c2), .val (.int c3), .val (.int c4), .val (.int c5), .val (.int fr), .val (.int sel), .unset, .unset, .unset] [])) _
        refine XS.iload X0.here hx rfl (hb hby at_77) rfl ?_
        show Steps p.tables e below (T0.setTop (mkF m 79 #[.val (.int p1), .val (.int p2), .val (.int p3), .val (.int p4), .val (.int c0), .val (.int c1), .val (.int c2), .val (.int c3), .val (.int c4), .val (.int c5), .val (.int fr), .val (.int sel), .unset, .unset, .unset] [(.int c2)])) _
        refine XS.istore X0.here hx rfl (hb hby at_79) rfl (l' := #[.val (.int p1), .val (.int p2), .val (.int p3), .val (.int p4), .val (.int c0), .val (.int c1), .val (.int c2), .val (.int c3), .val (.int c4), .val (.int c5), .val (.int fr), .val (.int sel), .val (.int c2), .unset, .unset]) rfl ?_
        show Steps p.tables e below (T0.setTop (mkF m 81 #[.val (.int p1), .val (.int p2), .val (.int p3), .val (.int p4), .val (.int c0), .val (.int c1), .val (.int c2), .val (.int c3), .val (.int c4), .val (.int c5), .val (.int fr), .val (.int sel), .val (.int c2), .unset, .unset] [])) _
        refine XS.goto X0.here hx rfl (pc0 := 81) (pc' := 127) rfl (hb hby at_81) (by decide) (by decide) ?_
        exact kt
      · rw [if_neg ht2] at kt
        show Steps p.tables e below (T0.setTop (mkF m 74 #[.val (.int p1), .val (.int p2), .val (.int p3), .val (.int p4), .val (.int c0), .val (.int c1), .val (.int c2), .val (.int c3), .val (.int c4), .val (.int c5), .val (.int fr), .val (.int sel), .unset, .unset, .unset] [(.int (2 : Int32)), (.int sel)])) _
        refine XS.icmpYes X0.here hx rfl (pc0 := 74) (pc' := 84) rfl (hb hby at_74) rfl (feq (ht2 : ¬ (sel = (2 : Int32)))).2 (by decide) (by decide) ?_
        show Steps p.tables e below (T0.setTop (mkF m 84 #[.val (.int p1), .val (.int p2), .val (.int p3), .val (.int p4), .val (.int c0), .val (.int c1), .val (.int c2), .val (.int c3), .val (.int c4), .val (.int c5), .val (.int fr), .val (.int sel), .unset, .unset, .unset] [])) _
        refine XS.iload X0.here hx rfl (hb hby at_84) rfl ?_
        show Steps p.tables e below (T0.setTop (mkF m 86 #[.val (.int p1), .val (.int p2), .val (.int p3), .val (.int p4), .val (.int c0), .val (.int c1), .val (.int c2), .val (.int c3), .val (.int c4), .val (.int c5), .val (.int fr), .val (.int sel), .unset, .unset, .unset] [(.int sel)])) _
        refine XS.iconst X0.here hx rfl (hb hby at_86) ?_
        by_cases ht3 : sel = (3 : Int32)
        · rw [if_pos ht3] at kt
          show Steps p.tables e below (T0.setTop (mkF m 87 #[.val (.int p1), .val (.int p2), .val (.int p3), .val (.int p4), .val (.int c0), .val (.int c1), .val (.int c2), .val (.int c3), .val (.int c4), .val (.int c5), .val (.int fr), .val (.int sel), .unset, .unset, .unset] [(.int (3 : Int32)), (.int sel)])) _
          refine XS.icmpNo X0.here hx rfl (hb hby at_87) rfl (teq (ht3 : sel = (3 : Int32))).2 ?_
          show Steps p.tables e below (T0.setTop (mkF m 90 #[.val (.int p1), .val (.int p2), .val (.int p3), .val (.int p4), .val (.int c0), .val (.int c1), .val (.int c2), .val (.int c3), .val (.int c4), .val (.int c5), .val (.int fr), .val (.int sel), .unset, .unset, .unset] [])) _
          refine XS.iload X0.here hx rfl (hb hby at_90) rfl ?_
          show Steps p.tables e below (T0.setTop (mkF m 92 #[.val (.int p1), .val (.int p2), .val (.int p3), .val (.int p4), .val (.int c0), .val (.int c1), .val (.int c2), .val (.int c3), .val (.int c4), .val (.int c5), .val (.int fr), .val (.int sel), .unset, .unset, .unset] [(.int c3)])) _
          refine XS.istore X0.here hx rfl (hb hby at_92) rfl (l' := #[.val (.int p1), .val (.int p2), .val (.int p3), .val (.int p4), .val (.int c0), .val (.int c1), .val (.int c2), .val (.int c3), .val (.int c4), .val (.int c5), .val (.int fr), .val (.int sel), .val (.int c3), .unset, .unset]) rfl ?_
          show Steps p.tables e below (T0.setTop (mkF m 94 #[.val (.int p1), .val (.int p2), .val (.int p3), .val (.int p4), .val (.int c0), .val (.int c1), .val (.int c2), .val (.int c3), .val (.int c4), .val (.int c5), .val (.int fr), .val (.int sel), .val (.int c3), .unset, .unset] [])) _
          refine XS.goto X0.here hx rfl (pc0 := 94) (pc' := 127) rfl (hb hby at_94) (by decide) (by decide) ?_
          exact kt
        · rw [if_neg ht3] at kt
          show Steps p.tables e below (T0.setTop (mkF m 87 #[.val (.int p1), .val (.int p2), .val (.int p3), .val (.int p4), .val (.int c0), .val (.int c1), .val (.int c2), .val (.int c3), .val (.int c4), .val (.int c5), .val (.int fr), .val (.int sel), .unset, .unset, .unset] [(.int (3 : Int32)), (.int sel)])) _
          refine XS.icmpYes X0.here hx rfl (pc0 := 87) (pc' := 97) rfl (hb hby at_87) rfl (feq (ht3 : ¬ (sel = (3 : Int32)))).2 (by decide) (by decide) ?_
          show Steps p.tables e below (T0.setTop (mkF m 97 #[.val (.int p1), .val (.int p2), .val (.int p3), .val (.int p4), .val (.int c0), .val (.int c1), .val (.int c2), .val (.int c3), .val (.int c4), .val (.int c5), .val (.int fr), .val (.int sel), .unset, .unset, .unset] [])) _
          refine XS.iload X0.here hx rfl (hb hby at_97) rfl ?_
          show Steps p.tables e below (T0.setTop (mkF m 99 #[.val (.int p1), .val (.int p2), .val (.int p3), .val (.int p4), .val (.int c0), .val (.int c1), .val (.int c2), .val (.int c3), .val (.int c4), .val (.int c5), .val (.int fr), .val (.int sel), .unset, .unset, .unset] [(.int sel)])) _
          refine XS.iconst X0.here hx rfl (hb hby at_99) ?_
          by_cases ht4 : sel = (4 : Int32)
          · rw [if_pos ht4] at kt
            show Steps p.tables e below (T0.setTop (mkF m 100 #[.val (.int p1), .val (.int p2), .val (.int p3), .val (.int p4), .val (.int c0), .val (.int c1), .val (.int c2), .val (.int c3), .val (.int c4), .val (.int c5), .val (.int fr), .val (.int sel), .unset, .unset, .unset] [(.int (4 : Int32)), (.int sel)])) _
            refine XS.icmpNo X0.here hx rfl (hb hby at_100) rfl (teq (ht4 : sel = (4 : Int32))).2 ?_
            show Steps p.tables e below (T0.setTop (mkF m 103 #[.val (.int p1), .val (.int p2), .val (.int p3), .val (.int p4), .val (.int c0), .val (.int c1), .val (.int c2), .val (.int c3), .val (.int c4), .val (.int c5), .val (.int fr), .val (.int sel), .unset, .unset, .unset] [])) _
            refine XS.iload X0.here hx rfl (hb hby at_103) rfl ?_
            show Steps p.tables e below (T0.setTop (mkF m 105 #[.val (.int p1), .val (.int p2), .val (.int p3), .val (.int p4), .val (.int c0), .val (.int c1), .val (.int c2), .val (.int c3), .val (.int c4), .val (.int c5), .val (.int fr), .val (.int sel), .unset, .unset, .unset] [(.int c4)])) _
            refine XS.istore X0.here hx rfl (hb hby at_105) rfl (l' := #[.val (.int p1), .val (.int p2), .val (.int p3), .val (.int p4), .val (.int c0), .val (.int c1), .val (.int c2), .val (.int c3), .val (.int c4), .val (.int c5), .val (.int fr), .val (.int sel), .val (.int c4), .unset, .unset]) rfl ?_
            show Steps p.tables e below (T0.setTop (mkF m 107 #[.val (.int p1), .val (.int p2), .val (.int p3), .val (.int p4), .val (.int c0), .val (.int c1), .val (.int c2), .val (.int c3), .val (.int c4), .val (.int c5), .val (.int fr), .val (.int sel), .val (.int c4), .unset, .unset] [])) _
            refine XS.goto X0.here hx rfl (pc0 := 107) (pc' := 127) rfl (hb hby at_107) (by decide) (by decide) ?_
            exact kt
          · rw [if_neg ht4] at kt
            show Steps p.tables e below (T0.setTop (mkF m 100 #[.val (.int p1), .val (.int p2), .val (.int p3), .val (.int p4), .val (.int c0), .val (.int c1), .val (.int c2), .val (.int c3), .val (.int c4), .val (.int c5), .val (.int fr), .val (.int sel), .unset, .unset, .unset] [(.int (4 : Int32)), (.int sel)])) _
            refine XS.icmpYes X0.here hx rfl (pc0 := 100) (pc' := 110) rfl (hb hby at_100) rfl (feq (ht4 : ¬ (sel = (4 : Int32)))).2 (by decide) (by decide) ?_
            show Steps p.tables e below (T0.setTop (mkF m 110 #[.val (.int p1), .val (.int p2), .val (.int p3), .val (.int p4), .val (.int c0), .val (.int c1), .val (.int c2), .val (.int c3), .val (.int c4), .val (.int c5), .val (.int fr), .val (.int sel), .unset, .unset, .unset] [])) _
            refine XS.iload X0.here hx rfl (hb hby at_110) rfl ?_
            show Steps p.tables e below (T0.setTop (mkF m 112 #[.val (.int p1), .val (.int p2), .val (.int p3), .val (.int p4), .val (.int c0), .val (.int c1), .val (.int c2), .val (.int c3), .val (.int c4), .val (.int c5), .val (.int fr), .val (.int sel), .unset, .unset, .unset] [(.int sel)])) _
            refine XS.iconst X0.here hx rfl (hb hby at_112) ?_
            by_cases ht5 : sel = (5 : Int32)
            · rw [if_pos ht5] at kt
              show Steps p.tables e below (T0.setTop (mkF m 113 #[.val (.int p1), .val (.int p2), .val (.int p3), .val (.int p4), .val (.int c0), .val (.int c1), .val (.int c2), .val (.int c3), .val (.int c4), .val (.int c5), .val (.int fr), .val (.int sel), .unset, .unset, .unset] [(.int (5 : Int32)), (.int sel)])) _
              refine XS.icmpNo X0.here hx rfl (hb hby at_113) rfl (teq (ht5 : sel = (5 : Int32))).2 ?_
              show Steps p.tables e below (T0.setTop (mkF m 116 #[.val (.int p1), .val (.int p2), .val (.int p3), .val (.int p4), .val (.int c0), .val (.int c1), .val (.int c2), .val (.int c3), .val (.int c4), .val (.int c5), .val (.int fr), .val (.int sel), .unset, .unset, .unset] [])) _
              refine XS.iload X0.here hx rfl (hb hby at_116) rfl ?_
              show Steps p.tables e below (T0.setTop (mkF m 118 #[.val (.int p1), .val (.int p2), .val (.int p3), .val (.int p4), .val (.int c0), .val (.int c1), .val (.int c2), .val (.int c3), .val (.int c4), .val (.int c5), .val (.int fr), .val (.int sel), .unset, .unset, .unset] [(.int c5)])) _
              refine XS.istore X0.here hx rfl (hb hby at_118) rfl (l' := #[.val (.int p1), .val (.int p2), .val (.int p3), .val (.int p4), .val (.int c0), .val (.int c1), .val (.int c2), .val (.int c3), .val (.int c4), .val (.int c5), .val (.int fr), .val (.int sel), .val (.int c5), .unset, .unset]) rfl ?_
              show Steps p.tables e below (T0.setTop (mkF m 120 #[.val (.int p1), .val (.int p2), .val (.int p3), .val (.int p4), .val (.int c0), .val (.int c1), .val (.int c2), .val (.int c3), .val (.int c4), .val (.int c5), .val (.int fr), .val (.int sel), .val (.int c5), .unset, .unset] [])) _
              refine XS.goto X0.here hx rfl (pc0 := 120) (pc' := 127) rfl (hb hby at_120) (by decide) (by decide) ?_
              exact kt
            · rw [if_neg ht5] at kt
              show Steps p.tables e below (T0.setTop (mkF m 113 #[.val (.int p1), .val (.int p2), .val (.int p3), .val (.int p4), .val (.int c0), .val (.int c1), .val (.int c2), .val (.int c3), .val (.int c4), .val (.int c5), .val (.int fr), .val (.int sel), .unset, .unset, .unset] [(.int (5 : Int32)), (.int sel)])) _
              refine XS.icmpYes X0.here hx rfl (pc0 := 113) (pc' := 123) rfl (hb hby at_113) rfl (feq (ht5 : ¬ (sel = (5 : Int32)))).2 (by decide) (by decide) ?_
              show Steps p.tables e below (T0.setTop (mkF m 123 #[.val (.int p1), .val (.int p2), .val (.int p3), .val (.int p4), .val (.int c0), .val (.int c1), .val (.int c2), .val (.int c3), .val (.int c4), .val (.int c5), .val (.int fr), .val (.int sel), .unset, .unset, .unset] [])) _
              refine XS.iload X0.here hx rfl (hb hby at_123) rfl ?_
              show Steps p.tables e below (T0.setTop (mkF m 125 #[.val (.int p1), .val (.int p2), .val (.int p3), .val (.int p4), .val (.int c0), .val (.int c1), .val (.int c2), .val (.int c3), .val (.int c4), .val (.int c5), .val (.int fr), .val (.int sel), .unset, .unset, .unset] [(.int fr)])) _
              refine XS.istore X0.here hx rfl (hb hby at_125) rfl (l' := #[.val (.int p1), .val (.int p2), .val (.int p3), .val (.int p4), .val (.int c0), .val (.int c1), .val (.int c2), .val (.int c3), .val (.int c4), .val (.int c5), .val (.int fr), .val (.int sel), .val (.int fr), .unset, .unset]) rfl ?_
              exact kt
def own_exp (pr c0 c1 c3 c5 : Int32) : Int32 := (if pr = c0 then (1 : Int32) else (if pr = c1 then (1 : Int32) else (if pr = c3 then (1 : Int32) else (if pr = c5 then (1 : Int32) else (0 : Int32)))))
set_option maxRecDepth 65536 in
set_option maxHeartbeats 40000000 in
theorem own_seg2 {p : Program} {l : Launch} {e : Env} {R : Room} {s : State} {m : MethodId} {args : Array Value} {below : List Frame} {meth : Method} {c : Code} {T0 : State} {locs : List Loc} {cells slots : Nat} {Z : State} {a0 : Array Value} {h0 : Heap} (p1 p2 p3 p4 c0 c1 c2 c3 c4 c5 fr sel pr : Int32) (b : Addr)
    (X0 : Stand p l e R s m args below meth c T0 locs cells slots) (hx : p.tables.exec = Jvm.exec) (hZ : Z.Warmed39 s.vm) (hw : ∀ d ∈ tables_1, d.before a0 Z = true) (hby : c.code = code) (hml : c.maxLocals = 15) (hown : s.vm.findClass "com/example/fjordwire/fjordwire/model/ServiceCharactersIsSyntaxCharacterPinLaw" = some m.cls) (e0 : T0.heap = h0)  :
    ∀ target, Steps p.tables e below (T0.setTop (mkF m 183 #[.val (.int p1), .val (.int p2), .val (.int p3), .val (.int p4), .val (.int c0), .val (.int c1), .val (.int c2), .val (.int c3), .val (.int c4), .val (.int c5), .val (.int fr), .val (.int sel), .val (.int pr), .val (.ref b), .val (.int (if pr = c0 then (1 : Int32) else (if pr = c1 then (1 : Int32) else (if pr = c3 then (1 : Int32) else (if pr = c5 then (1 : Int32) else (0 : Int32))))))] [])) target → Steps p.tables e below (T0.setTop (mkF m 148 #[.val (.int p1), .val (.int p2), .val (.int p3), .val (.int p4), .val (.int c0), .val (.int c1), .val (.int c2), .val (.int c3), .val (.int c4), .val (.int c5), .val (.int fr), .val (.int sel), .val (.int pr), .val (.ref b), .unset] [])) target := by
  intro target kt
  show Steps p.tables e below (T0.setTop (mkF m 148 #[.val (.int p1), .val (.int p2), .val (.int p3), .val (.int p4), .val (.int c0), .val (.int c1), .val (.int c2), .val (.int c3), .val (.int c4), .val (.int c5), .val (.int fr), .val (.int sel), .val (.int pr), .val (.ref b), .unset] [])) _
  refine XS.iload X0.here hx rfl (hb hby at_148) rfl ?_
  show Steps p.tables e below (T0.setTop (mkF m 150 #[.val (.int p1), .val (.int p2), .val (.int p3), .val (.int p4), .val (.int c0), .val (.int c1), .val (.int c2), .val (.int c3), .val (.int c4), .val (.int c5), .val (.int fr), .val (.int sel), .val (.int pr), .val (.ref b), .unset] [(.int pr)])) _
  refine XS.iload X0.here hx rfl (hb hby at_150) rfl ?_
  by_cases ht0 : pr = c0
  · rw [if_pos ht0] at kt
    show Steps p.tables e below (T0.setTop (mkF m 152 #[.val (.int p1), .val (.int p2), .val (.int p3), .val (.int p4), .val (.int c0), .val (.int c1), .val (.int c2), .val (.int c3), .val (.int c4), .val (.int c5), .val (.int fr), .val (.int sel), .val (.int pr), .val (.ref b), .unset] [(.int c0), (.int pr)])) _
    refine XS.icmpYes X0.here hx rfl (pc0 := 152) (pc' := 176) rfl (hb hby at_152) rfl (teq (ht0 : pr = c0)).1 (by decide) (by decide) ?_
    show Steps p.tables e below (T0.setTop (mkF m 176 #[.val (.int p1), .val (.int p2), .val (.int p3), .val (.int p4), .val (.int c0), .val (.int c1), .val (.int c2), .val (.int c3), .val (.int c4), .val (.int c5), .val (.int fr), .val (.int sel), .val (.int pr), .val (.ref b), .unset] [])) _
    refine XS.iconst X0.here hx rfl (hb hby at_176) ?_
    show Steps p.tables e below (T0.setTop (mkF m 177 #[.val (.int p1), .val (.int p2), .val (.int p3), .val (.int p4), .val (.int c0), .val (.int c1), .val (.int c2), .val (.int c3), .val (.int c4), .val (.int c5), .val (.int fr), .val (.int sel), .val (.int pr), .val (.ref b), .unset] [(.int (1 : Int32))])) _
    refine XS.goto X0.here hx rfl (pc0 := 177) (pc' := 181) rfl (hb hby at_177) (by decide) (by decide) ?_
    show Steps p.tables e below (T0.setTop (mkF m 181 #[.val (.int p1), .val (.int p2), .val (.int p3), .val (.int p4), .val (.int c0), .val (.int c1), .val (.int c2), .val (.int c3), .val (.int c4), .val (.int c5), .val (.int fr), .val (.int sel), .val (.int pr), .val (.ref b), .unset] [(.int (1 : Int32))])) _
    refine XS.istore X0.here hx rfl (hb hby at_181) rfl (l' := #[.val (.int p1), .val (.int p2), .val (.int p3), .val (.int p4), .val (.int c0), .val (.int c1), .val (.int c2), .val (.int c3), .val (.int c4), .val (.int c5), .val (.int fr), .val (.int sel), .val (.int pr), .val (.ref b), .val (.int (1 : Int32))]) rfl ?_
    exact kt
  · rw [if_neg ht0] at kt
    show Steps p.tables e below (T0.setTop (mkF m 152 #[.val (.int p1), .val (.int p2), .val (.int p3), .val (.int p4), .val (.int c0), .val (.int c1), .val (.int c2), .val (.int c3), .val (.int c4), .val (.int c5), .val (.int fr), .val (.int sel), .val (.int pr), .val (.ref b), .unset] [(.int c0), (.int pr)])) _
    refine XS.icmpNo X0.here hx rfl (hb hby at_152) rfl (feq (ht0 : ¬ (pr = c0))).1 ?_
    show Steps p.tables e below (T0.setTop (mkF m 155 #[.val (.int p1), .val (.int p2), .val (.int p3), .val (.int p4), .val (.int c0), .val (.int c1), .val (.int c2), .val (.int c3), .val (.int c4), .val (.int c5), .val (.int fr), .val (.int sel), .val (.int pr), .val (.ref b), .unset] [])) _
    refine XS.iload X0.here hx rfl (hb hby at_155) rfl ?_
    show Steps p.tables e below (T0.setTop (mkF m 157 #[.val (.int p1), .val (.int p2), .val (.int p3), .val (.int p4), .val (.int c0), .val (.int c1), .val (.int c2), .val (.int c3), .val (.int c4), .val (.int c5), .val (.int fr), .val (.int sel), .val (.int pr), .val (.ref b), .unset] [(.int pr)])) _
    refine XS.iload X0.here hx rfl (hb hby at_157) rfl ?_
    by_cases ht1 : pr = c1
    · rw [if_pos ht1] at kt
      show Steps p.tables e below (T0.setTop (mkF m 159 #[.val (.int p1), .val (.int p2), .val (.int p3), .val (.int p4), .val (.int c0), .val (.int c1), .val (.int c2), .val (.int c3), .val (.int c4), .val (.int c5), .val (.int fr), .val (.int sel), .val (.int pr), .val (.ref b), .unset] [(.int c1), (.int pr)])) _
      refine XS.icmpYes X0.here hx rfl (pc0 := 159) (pc' := 176) rfl (hb hby at_159) rfl (teq (ht1 : pr = c1)).1 (by decide) (by decide) ?_
      show Steps p.tables e below (T0.setTop (mkF m 176 #[.val (.int p1), .val (.int p2), .val (.int p3), .val (.int p4), .val (.int c0), .val (.int c1), .val (.int c2), .val (.int c3), .val (.int c4), .val (.int c5), .val (.int fr), .val (.int sel), .val (.int pr), .val (.ref b), .unset] [])) _
      refine XS.iconst X0.here hx rfl (hb hby at_176) ?_
      show Steps p.tables e below (T0.setTop (mkF m 177 #[.val (.int p1), .val (.int p2), .val (.int p3), .val (.int p4), .val (.int c0), .val (.int c1), .val (.int c2), .val (.int c3), .val (.int c4), .val (.int c5), .val (.int fr), .val (.int sel), .val (.int pr), .val (.ref b), .unset] [(.int (1 : Int32))])) _
      refine XS.goto X0.here hx rfl (pc0 := 177) (pc' := 181) rfl (hb hby at_177) (by decide) (by decide) ?_
      show Steps p.tables e below (T0.setTop (mkF m 181 #[.val (.int p1), .val (.int p2), .val (.int p3), .val (.int p4), .val (.int c0), .val (.int c1), .val (.int c2), .val (.int c3), .val (.int c4), .val (.int c5), .val (.int fr), .val (.int sel), .val (.int pr), .val (.ref b), .unset] [(.int (1 : Int32))])) _
      refine XS.istore X0.here hx rfl (hb hby at_181) rfl (l' := #[.val (.int p1), .val (.int p2), .val (.int p3), .val (.int p4), .val (.int c0), .val (.int c1), .val (.int c2), .val (.int c3), .val (.int c4), .val (.int c5), .val (.int fr), .val (.int sel), .val (.int pr), .val (.ref b), .val (.int (1 : Int32))]) rfl ?_
      exact kt
    · rw [if_neg ht1] at kt
      show Steps p.tables e below (T0.setTop (mkF m 159 #[.val (.int p1), .val (.int p2), .val (.int p3), .val (.int p4), .val (.int c0), .val (.int c1), .val (.int c2), .val (.int c3), .val (.int c4), .val (.int c5), .val (.int fr), .val (.int sel), .val (.int pr), .val (.ref b), .unset] [(.int c1), (.int pr)])) _
      refine XS.icmpNo X0.here hx rfl (hb hby at_159) rfl (feq (ht1 : ¬ (pr = c1))).1 ?_
      show Steps p.tables e below (T0.setTop (mkF m 162 #[.val (.int p1), .val (.int p2), .val (.int p3), .val (.int p4), .val (.int c0), .val (.int c1), .val (.int c2), .val (.int c3), .val (.int c4), .val (.int c5), .val (.int fr), .val (.int sel), .val (.int pr), .val (.ref b), .unset] [])) _
      refine XS.iload X0.here hx rfl (hb hby at_162) rfl ?_
      show Steps p.tables e below (T0.setTop (mkF m 164 #[.val (.int p1), .val (.int p2), .val (.int p3), .val (.int p4), .val (.int c0), .val (.int c1), .val (.int c2), .val (.int c3), .val (.int c4), .val (.int c5), .val (.int fr), .val (.int sel), .val (.int pr), .val (.ref b), .unset] [(.int pr)])) _
      refine XS.iload X0.here hx rfl (hb hby at_164) rfl ?_
      by_cases ht2 : pr = c3
      · rw [if_pos ht2] at kt
        show Steps p.tables e below (T0.setTop (mkF m 166 #[.val (.int p1), .val (.int p2), .val (.int p3), .val (.int p4), .val (.int c0), .val (.int c1), .val (.int c2), .val (.int c3), .val (.int c4), .val (.int c5), .val (.int fr), .val (.int sel), .val (.int pr), .val (.ref b), .unset] [(.int c3), (.int pr)])) _
        refine XS.icmpYes X0.here hx rfl (pc0 := 166) (pc' := 176) rfl (hb hby at_166) rfl (teq (ht2 : pr = c3)).1 (by decide) (by decide) ?_
        show Steps p.tables e below (T0.setTop (mkF m 176 #[.val (.int p1), .val (.int p2), .val (.int p3), .val (.int p4), .val (.int c0), .val (.int c1), .val (.int c2), .val (.int c3), .val (.int c4), .val (.int c5), .val (.int fr), .val (.int sel), .val (.int pr), .val (.ref b), .unset] [])) _
        refine XS.iconst X0.here hx rfl (hb hby at_176) ?_
        show Steps p.tables e below (T0.setTop (mkF m 177 #[.val (.int p1), .val (.int p2), .val (.int p3), .val (.int p4), .val (.int c0), .val (.int c1), .val (.int c2), .val (.int c3), .val (.int c4), .val (.int c5), .val (.int fr), .val (.int sel), .val (.int pr), .val (.ref b), .unset] [(.int (1 : Int32))])) _
        refine XS.goto X0.here hx rfl (pc0 := 177) (pc' := 181) rfl (hb hby at_177) (by decide) (by decide) ?_
        show Steps p.tables e below (T0.setTop (mkF m 181 #[.val (.int p1), .val (.int p2), .val (.int p3), .val (.int p4), .val (.int c0), .val (.int c1), .val (.int c2), .val (.int c3), .val (.int c4), .val (.int c5), .val (.int fr), .val (.int sel), .val (.int pr), .val (.ref b), .unset] [(.int (1 : Int32))])) _
        refine XS.istore X0.here hx rfl (hb hby at_181) rfl (l' := #[.val (.int p1), .val (.int p2), .val (.int p3), .val (.int p4), .val (.int c0), .val (.int c1), .val (.int c2), .val (.int c3), .val (.int c4), .val (.int c5), .val (.int fr), .val (.int sel), .val (.int pr), .val (.ref b), .val (.int (1 : Int32))]) rfl ?_
        exact kt
      · rw [if_neg ht2] at kt
        show Steps p.tables e below (T0.setTop (mkF m 166 #[.val (.int p1), .val (.int p2), .val (.int p3), .val (.int p4), .val (.int c0), .val (.int c1), .val (.int c2), .val (.int c3), .val (.int c4), .val (.int c5), .val (.int fr), .val (.int sel), .val (.int pr), .val (.ref b), .unset] [(.int c3), (.int pr)])) _
        refine XS.icmpNo X0.here hx rfl (hb hby at_166) rfl (feq (ht2 : ¬ (pr = c3))).1 ?_
        show Steps p.tables e below (T0.setTop (mkF m 169 #[.val (.int p1), .val (.int p2), .val (.int p3), .val (.int p4), .val (.int c0), .val (.int c1), .val (.int c2), .val (.int c3), .val (.int c4), .val (.int c5), .val (.int fr), .val (.int sel), .val (.int pr), .val (.ref b), .unset] [])) _
        refine XS.iload X0.here hx rfl (hb hby at_169) rfl ?_
        show Steps p.tables e below (T0.setTop (mkF m 171 #[.val (.int p1), .val (.int p2), .val (.int p3), .val (.int p4), .val (.int c0), .val (.int c1), .val (.int c2), .val (.int c3), .val (.int c4), .val (.int c5), .val (.int fr), .val (.int sel), .val (.int pr), .val (.ref b), .unset] [(.int pr)])) _
        refine XS.iload X0.here hx rfl (hb hby at_171) rfl ?_
        by_cases ht3 : pr = c5
        · rw [if_pos ht3] at kt
          show Steps p.tables e below (T0.setTop (mkF m 173 #[.val (.int p1), .val (.int p2), .val (.int p3), .val (.int p4), .val (.int c0), .val (.int c1), .val (.int c2), .val (.int c3), .val (.int c4), .val (.int c5), .val (.int fr), .val (.int sel), .val (.int pr), .val (.ref b), .unset] [(.int c5), (.int pr)])) _
          refine XS.icmpNo X0.here hx rfl (hb hby at_173) rfl (teq (ht3 : pr = c5)).2 ?_
          show Steps p.tables e below (T0.setTop (mkF m 176 #[.val (.int p1), .val (.int p2), .val (.int p3), .val (.int p4), .val (.int c0), .val (.int c1), .val (.int c2), .val (.int c3), .val (.int c4), .val (.int c5), .val (.int fr), .val (.int sel), .val (.int pr), .val (.ref b), .unset] [])) _
          refine XS.iconst X0.here hx rfl (hb hby at_176) ?_
          show Steps p.tables e below (T0.setTop (mkF m 177 #[.val (.int p1), .val (.int p2), .val (.int p3), .val (.int p4), .val (.int c0), .val (.int c1), .val (.int c2), .val (.int c3), .val (.int c4), .val (.int c5), .val (.int fr), .val (.int sel), .val (.int pr), .val (.ref b), .unset] [(.int (1 : Int32))])) _
          refine XS.goto X0.here hx rfl (pc0 := 177) (pc' := 181) rfl (hb hby at_177) (by decide) (by decide) ?_
          show Steps p.tables e below (T0.setTop (mkF m 181 #[.val (.int p1), .val (.int p2), .val (.int p3), .val (.int p4), .val (.int c0), .val (.int c1), .val (.int c2), .val (.int c3), .val (.int c4), .val (.int c5), .val (.int fr), .val (.int sel), .val (.int pr), .val (.ref b), .unset] [(.int (1 : Int32))])) _
          refine XS.istore X0.here hx rfl (hb hby at_181) rfl (l' := #[.val (.int p1), .val (.int p2), .val (.int p3), .val (.int p4), .val (.int c0), .val (.int c1), .val (.int c2), .val (.int c3), .val (.int c4), .val (.int c5), .val (.int fr), .val (.int sel), .val (.int pr), .val (.ref b), .val (.int (1 : Int32))]) rfl ?_
          exact kt
        · rw [if_neg ht3] at kt
          show Steps p.tables e below (T0.setTop (mkF m 173 #[.val (.int p1), .val (.int p2), .val (.int p3), .val (.int p4), .val (.int c0), .val (.int c1), .val (.int c2), .val (.int c3), .val (.int c4), .val (.int c5), .val (.int fr), .val (.int sel), .val (.int pr), .val (.ref b), .unset] [(.int c5), (.int pr)])) _
          refine XS.icmpYes X0.here hx rfl (pc0 := 173) (pc' := 180) rfl (hb hby at_173) rfl (feq (ht3 : ¬ (pr = c5))).2 (by decide) (by decide) ?_
          show Steps p.tables e below (T0.setTop (mkF m 180 #[.val (.int p1), .val (.int p2), .val (.int p3), .val (.int p4), .val (.int c0), .val (.int c1), .val (.int c2), .val (.int c3), .val (.int c4), .val (.int c5), .val (.int fr), .val (.int sel), .val (.int pr), .val (.ref b), .unset] [])) _
          refine XS.iconst X0.here hx rfl (hb hby at_180) ?_
          show Steps p.tables e below (T0.setTop (mkF m 181 #[.val (.int p1), .val (.int p2), .val (.int p3), .val (.int p4), .val (.int c0), .val (.int c1), .val (.int c2), .val (.int c3), .val (.int c4), .val (.int c5), .val (.int fr), .val (.int sel), .val (.int pr), .val (.ref b), .unset] [(.int (0 : Int32))])) _
          refine XS.istore X0.here hx rfl (hb hby at_181) rfl (l' := #[.val (.int p1), .val (.int p2), .val (.int p3), .val (.int p4), .val (.int c0), .val (.int c1), .val (.int c2), .val (.int c3), .val (.int c4), .val (.int c5), .val (.int fr), .val (.int sel), .val (.int pr), .val (.ref b), .val (.int (0 : Int32))]) rfl ?_
          exact kt
theorem own_fin (pr x0 x1 x3 x5 : Int32) : own_syn pr (nar .char (nar .char x0)) (nar .char (nar .char x1)) (nar .char (nar .char x3)) (nar .char (nar .char x5)) = own_exp pr (nar .char x0) (nar .char x1) (nar .char x3) (nar .char x5) := by
  simp only [own_syn, own_exp, own_nn, eq_comm (a := pr)]
theorem pd_0 : parseMethodDescriptor "(CCCCCC)V" = some ⟨[.char, .char, .char, .char, .char, .char], none⟩ := by decide +kernel
theorem pd_1 : parseMethodDescriptor "(C)Z" = some ⟨[.char], some .boolean⟩ := by decide +kernel
theorem pn_com_example_fjordwire_fjordwire_model_ServiceCharactersIsSyntaxCharacterPinLaw : plainName "com/example/fjordwire/fjordwire/model/ServiceCharactersIsSyntaxCharacterPinLaw" = true := by first | (simp [plainName, overriddenIn]; done) | decide +kernel
theorem ef_rm0 (m : MethodId) (x0 : Int32) (x1 : Int32) (x2 : Int32) (x3 : Int32) : entryFrame m #[(.int x0), (.int x1), (.int x2), (.int x3)] maxLocals = mkF m 0 #[.val (.int x0), .val (.int x1), .val (.int x2), .val (.int x3), .unset, .unset, .unset, .unset, .unset, .unset, .unset, .unset, .unset, .unset, .unset] [] := by first | (simp [entryFrame, mkF, argsToLocals, Value.category, maxLocals]; done) | rfl
def Qrm0 (Z : State) (p1 : Int32) (p2 : Int32) (p3 : Int32) (p4 : Int32) (sp : Addr) (kS : ClassId) (h0 : Heap) (n0 : Nat) (v : Option Value) (h : Heap) (L : List Loc) : Prop := v = some (.int (1 : Int32)) ∧ Fr n0 L
set_option maxRecDepth 65536 in
set_option maxHeartbeats 40000000 in
theorem rm0 (l : Launch) (Z : State) (a0 : Array Value) (hw : ∀ d ∈ tables_1, d.before a0 Z = true) (ws : List Jvm.Cond) (p1 : Int32) (p2 : Int32) (p3 : Int32) (p4 : Int32) (sp : Addr) (kS : ClassId) (h0 : Heap) (n0 : Nat) (Z0 : n0 ≤ h0.size) (S_sp : Sta Z h0 "com/example/fjordwire/fjordwire/model/ServiceCharacters" "SYNTAX_POSITIONS" "[I" (.ref sp)) (V_sp : Arv Z h0 sp kS .int (4 : Int32) [(.int (0 : Int32)), (.int (1 : Int32)), (.int (3 : Int32)), (.int (5 : Int32))] (.int (0 : Int32))) :
    MetFree l x (head1 (Jvm.Cond.code x code maxLocals ret :: ws) room_1) (fun a U => a = #[(.int p1), (.int p2), (.int p3), (.int p4)] ∧ Z.Warmed39 U.vm ∧ U.heap = h0) (fun _ _ _ _ _ => True) (fun _ U o U' => ∃ v L, o = .returned v ∧ Qrm0 Z p1 p2 p3 p4 sp kS h0 n0 v U'.heap L ∧ FrameEnd U o U' L room_1.cells room_1.slots) := by
  refine MetFree.of_bodySF (plainFor_of_name pn_com_example_fjordwire_fjordwire_model_ServiceCharactersIsSyntaxCharacterPinLaw) hisR ?_
  intro p e s m args below meth c s₁ Bd hml0 hP hK
  obtain ⟨rfl, hZ, hh⟩ := hP
  have hx := Bd.exec
  have hby := Bd.bytes
  have hml : c.maxLocals = 15 := hml0
  have hown : s.vm.findClass "com/example/fjordwire/fjordwire/model/ServiceCharactersIsSyntaxCharacterPinLaw" = some m.cls := findClass_of_methodNamed Bd.named
  have hnm := (name_of_methodNamed Bd.named Bd.method).1
  have X0 : Stand p l e room_1 s m #[(.int p1), (.int p2), (.int p3), (.int p4)] below meth c s₁ [] 0 0 := Stand.of_body Bd
  have e0 : s₁.heap = h0 := by rw [← hh, Bd.state]; rfl
  have N0 := Fr.nil n0
  have pre0 : ∀ t, Steps p.tables e below (s₁.setTop (mkF m 0 #[.val (.int p1), .val (.int p2), .val (.int p3), .val (.int p4), .unset, .unset, .unset, .unset, .unset, .unset, .unset, .unset, .unset, .unset, .unset] [])) t → Steps p.tables e below (s₁.setTop (entryFrame m #[(.int p1), (.int p2), (.int p3), (.int p4)] maxLocals)) t := fun t k => castTop (ef_rm0 m p1 p2 p3 p4) k
  obtain ⟨T1, h1, X1, e1, E1, A1, D1, -, st1⟩ := newO X0 hx hZ hown (hw _ (List.mem_of_getElem? (i := 0) rfl)) (hw _ (List.mem_of_getElem? (i := 1) rfl)) (hw _ (List.mem_of_getElem? (i := 2) rfl)) e0 (g := (mkF m 127 #[.val (.int p1), .val (.int p2), .val (.int p3), .val (.int p4), .val (.int (nar .char p1)), .val (.int (nar .char (own_xs (16 : Int32) p1))), .val (.int (nar .char p2)), .val (.int (nar .char (own_xs (16 : Int32) p2))), .val (.int (nar .char p3)), .val (.int (nar .char (own_xs (16 : Int32) p3))), .val (.int (nar .char (own_xs (16 : Int32) p4))), .val (.int (p4 &&& (7 : Int32))), .val (.int (own_pick (p4 &&& (7 : Int32)) (nar .char p1) (nar .char (own_xs (16 : Int32) p1)) (nar .char p2) (nar .char (own_xs (16 : Int32) p2)) (nar .char p3) (nar .char (own_xs (16 : Int32) p3)) (nar .char (own_xs (16 : Int32) p4)))), .unset, .unset] [])) rfl (hb hby at_127) (by decide) (by decide)
  obtain ⟨b1, gz1⟩ : ∃ z, z = h0.size := ⟨_, rfl⟩
  rw [← gz1] at A1 D1 st1
  have ne_sp_b1 : sp ≠ b1 := Nat.ne_of_lt (Nat.lt_of_lt_of_le V_sp.lt (Nat.le_of_eq gz1.symm))
  have g_b1 : n0 ≤ b1 := Nat.le_trans Z0 (Nat.le_of_eq gz1.symm)
  have sz_b1 : h0.size ≤ b1 := Nat.le_trans (Keep.refl h0 []).1 (Nat.le_of_eq gz1.symm)
  have Z2 : n0 ≤ h1.size := Nat.le_trans Z0 E1.1
  have F_m_characters_b1 : Fld Z h1 b1 "com/example/fjordwire/fjordwire/model/ServiceCharacters" "m_characters" "[C" .null := D1 (Or.inr (hw _ (List.mem_of_getElem? (i := 11) rfl))) (ty := (.array .char)) (by decide)
  obtain ⟨_, _, ⟨T3, L3, k3, n3⟩, -, X3, ⟨Lc3, hQ3, l3, y3, z3⟩, st3⟩ := X1.specialBack hx (y := (⟨"com/example/fjordwire/fjordwire/model/ServiceCharacters", "<init>", "(CCCCCC)V"⟩ : MethodName)) rfl hown (mvT hZ (hw _ (List.mem_of_getElem? (i := 3) rfl))) (mvT hZ (hw _ (List.mem_of_getElem? (i := 4) rfl))) (mvT hZ (hw _ (List.mem_of_getElem? (i := 5) rfl))) (by decide) (backOf (W := 1) (rm1 l Z a0 hw [] b1 (nar .char p1) (nar .char (own_xs (16 : Int32) p1)) (nar .char p2) (nar .char (own_xs (16 : Int32) p2)) (nar .char p3) (nar .char (own_xs (16 : Int32) p3))  h1 n0 Z2 A1 g_b1 F_m_characters_b1) hZ (hw _ (List.mem_of_getElem? (i := 5) rfl)) (hw _ (List.mem_of_getElem? (i := 2) rfl)) (by decide) (by decide)) (g := (mkF m 143 #[.val (.int p1), .val (.int p2), .val (.int p3), .val (.int p4), .val (.int (nar .char p1)), .val (.int (nar .char (own_xs (16 : Int32) p1))), .val (.int (nar .char p2)), .val (.int (nar .char (own_xs (16 : Int32) p2))), .val (.int (nar .char p3)), .val (.int (nar .char (own_xs (16 : Int32) p3))), .val (.int (nar .char (own_xs (16 : Int32) p4))), .val (.int (p4 &&& (7 : Int32))), .val (.int (own_pick (p4 &&& (7 : Int32)) (nar .char p1) (nar .char (own_xs (16 : Int32) p1)) (nar .char p2) (nar .char (own_xs (16 : Int32) p2)) (nar .char p3) (nar .char (own_xs (16 : Int32) p3)) (nar .char (own_xs (16 : Int32) p4)))), .unset, .unset] [(.int (nar .char (own_xs (16 : Int32) p3))), (.int (nar .char p3)), (.int (nar .char (own_xs (16 : Int32) p2))), (.int (nar .char p2)), (.int (nar .char (own_xs (16 : Int32) p1))), (.int (nar .char p1)), (.ref b1), (.ref b1)])) rfl (by rw [hml]; rfl) (Steps.refl _) (a := b1) (argsL := [(.int (nar .char p1)), (.int (nar .char (own_xs (16 : Int32) p1))), (.int (nar .char p2)), (.int (nar .char (own_xs (16 : Int32) p2))), (.int (nar .char p3)), (.int (nar .char (own_xs (16 : Int32) p3)))]) (rest := [(.ref b1)]) (lenOf pd_0 rfl) rfl (by show 2 * 0 + _ ≤ _; exact Nat.le_of_eq rfl) (hb hby at_143) (fun _ _ => ⟨rfl, e1, (by decide : 1 + 1 ≤ _), (by decide : 1 + 6 ≤ _)⟩)
  dsimp only [Pt.U, Pt.locs, Pt.cells, Pt.slots] at X3 l3 y3 z3 st3 hQ3
  subst l3 y3 z3
  obtain ⟨c3, kc3, rfl, N3q, K3, gc3, Ec3, Fm3, Vc3⟩ := hQ3
  have N3 := Fr.app N0 N3q
  have Z4 : n0 ≤ T3.heap.size := Nat.le_trans Z2 K3.1
  have f5 := S_sp.ext E1
  have f6 := own_sta_keep f5 K3 A1
  have f7 := V_sp.ext E1
  have f8 := f7.keep K3 (ninS ne_sp_b1 nin0)
  obtain ⟨cq9, kq9, q9a, q9b, q9c⟩ := isOf hZ rfl Ec3
  obtain ⟨_, _, ⟨T9, L9, k9, n9⟩, -, X9, ⟨Lc9, hQ9, l9, y9, z9⟩, st9⟩ := X3.virtualBack hx (y := (⟨"com/example/fjordwire/fjordwire/model/ServiceCharacters", "isSyntaxCharacter", "(C)Z"⟩ : MethodName)) (z := (⟨"com/example/fjordwire/fjordwire/model/ServiceCharacters", "isSyntaxCharacter", "(C)Z"⟩ : MethodName)) hown (mvT hZ (hw _ (List.mem_of_getElem? (i := 12) rfl))) (mvT hZ (hw _ (List.mem_of_getElem? (i := 13) rfl))) (notFace_of_selects (args := #[]) (mvT hZ (hw _ (List.mem_of_getElem? (i := 15) rfl)))) (mvT hZ (hw _ (List.mem_of_getElem? (i := 15) rfl))) (mvT hZ (hw _ (List.mem_of_getElem? (i := 14) rfl))) (by decide) (backOf (W := 0) (rm3 l Z a0 hw [] b1 (own_pick (p4 &&& (7 : Int32)) (nar .char p1) (nar .char (own_xs (16 : Int32) p1)) (nar .char p2) (nar .char (own_xs (16 : Int32) p2)) (nar .char p3) (nar .char (own_xs (16 : Int32) p3)) (nar .char (own_xs (16 : Int32) p4))) c3 kc3 (nar .char (nar .char p1)) (nar .char (nar .char (own_xs (16 : Int32) p1))) (nar .char (nar .char p2)) (nar .char (nar .char (own_xs (16 : Int32) p2))) (nar .char (nar .char p3)) (nar .char (nar .char (own_xs (16 : Int32) p3))) sp kS T3.heap n0 Z4 Fm3 Vc3 f6 f8) hZ (hw _ (List.mem_of_getElem? (i := 16) rfl)) (hw _ (List.mem_of_getElem? (i := 2) rfl)) (by decide) (by decide)) q9a q9c (g := (mkF m 187 #[.val (.int p1), .val (.int p2), .val (.int p3), .val (.int p4), .val (.int (nar .char p1)), .val (.int (nar .char (own_xs (16 : Int32) p1))), .val (.int (nar .char p2)), .val (.int (nar .char (own_xs (16 : Int32) p2))), .val (.int (nar .char p3)), .val (.int (nar .char (own_xs (16 : Int32) p3))), .val (.int (nar .char (own_xs (16 : Int32) p4))), .val (.int (p4 &&& (7 : Int32))), .val (.int (own_pick (p4 &&& (7 : Int32)) (nar .char p1) (nar .char (own_xs (16 : Int32) p1)) (nar .char p2) (nar .char (own_xs (16 : Int32) p2)) (nar .char p3) (nar .char (own_xs (16 : Int32) p3)) (nar .char (own_xs (16 : Int32) p4)))), .val (.ref b1), .val (.int (own_exp (own_pick (p4 &&& (7 : Int32)) (nar .char p1) (nar .char (own_xs (16 : Int32) p1)) (nar .char p2) (nar .char (own_xs (16 : Int32) p2)) (nar .char p3) (nar .char (own_xs (16 : Int32) p3)) (nar .char (own_xs (16 : Int32) p4))) (nar .char p1) (nar .char (own_xs (16 : Int32) p1)) (nar .char (own_xs (16 : Int32) p2)) (nar .char (own_xs (16 : Int32) p3))))] [(.int (own_pick (p4 &&& (7 : Int32)) (nar .char p1) (nar .char (own_xs (16 : Int32) p1)) (nar .char p2) (nar .char (own_xs (16 : Int32) p2)) (nar .char p3) (nar .char (own_xs (16 : Int32) p3)) (nar .char (own_xs (16 : Int32) p4)))), (.ref b1)])) rfl (by rw [hml]; rfl) (Steps.refl _) (argsL := [(.int (own_pick (p4 &&& (7 : Int32)) (nar .char p1) (nar .char (own_xs (16 : Int32) p1)) (nar .char p2) (nar .char (own_xs (16 : Int32) p2)) (nar .char p3) (nar .char (own_xs (16 : Int32) p3)) (nar .char (own_xs (16 : Int32) p4))))]) (rest := []) (lenOf pd_1 rfl) rfl (by show 2 * 0 + _ ≤ _; exact Nat.le_of_eq rfl) (hb hby at_187) (fun _ _ => ⟨rfl, rfl, (by decide : 2 + 0 ≤ _), (by decide : 7 + 0 ≤ _)⟩)
  dsimp only [Pt.U, Pt.locs, Pt.cells, Pt.slots] at X9 l9 y9 z9 st9 hQ9
  subst l9 y9 z9
  obtain ⟨rfl, N9q, e9⟩ := hQ9
  have N9 := Fr.app N3 N9q
  obtain ⟨fs, hr, hrun, hended, hW, hsame⟩ := X9.leave (v := some (.int (1 : Int32))) (fun h => by rw [Bd.returns] at h; cases h)
  refine ⟨_, _, pre0 _ ?_, hrun, hended, _, _, rfl, ?_, ⟨_, rfl⟩, hW, hsame.mono (by decide) (by decide)⟩
  · show Steps p.tables e below (s₁.setTop (mkF m 0 #[.val (.int p1), .val (.int p2), .val (.int p3), .val (.int p4), .unset, .unset, .unset, .unset, .unset, .unset, .unset, .unset, .unset, .unset, .unset] [])) _
    refine XS.iloadN X0.here hx rfl (hb hby at_0) rfl ?_
    show Steps p.tables e below (s₁.setTop (mkF m 1 #[.val (.int p1), .val (.int p2), .val (.int p3), .val (.int p4), .unset, .unset, .unset, .unset, .unset, .unset, .unset, .unset, .unset, .unset, .unset] [(.int p1)])) _
    refine XS.i2c X0.here hx rfl (hb hby at_1) rfl ?_
    show Steps p.tables e below (s₁.setTop (mkF m 2 #[.val (.int p1), .val (.int p2), .val (.int p3), .val (.int p4), .unset, .unset, .unset, .unset, .unset, .unset, .unset, .unset, .unset, .unset, .unset] [(.int (nar .char p1))])) _
    refine XS.istore X0.here hx rfl (hb hby at_2) rfl (l' := #[.val (.int p1), .val (.int p2), .val (.int p3), .val (.int p4), .val (.int (nar .char p1)), .unset, .unset, .unset, .unset, .unset, .unset, .unset, .unset, .unset, .unset]) rfl ?_
    show Steps p.tables e below (s₁.setTop (mkF m 4 #[.val (.int p1), .val (.int p2), .val (.int p3), .val (.int p4), .val (.int (nar .char p1)), .unset, .unset, .unset, .unset, .unset, .unset, .unset, .unset, .unset, .unset] [])) _
    refine XS.iloadN X0.here hx rfl (hb hby at_4) rfl ?_
    show Steps p.tables e below (s₁.setTop (mkF m 5 #[.val (.int p1), .val (.int p2), .val (.int p3), .val (.int p4), .val (.int (nar .char p1)), .unset, .unset, .unset, .unset, .unset, .unset, .unset, .unset, .unset, .unset] [(.int p1)])) _
    refine XS.bipush X0.here hx rfl (hb hby at_5) ?_
    show Steps p.tables e below (s₁.setTop (mkF m 7 #[.val (.int p1), .val (.int p2), .val (.int p3), .val (.int p4), .val (.int (nar .char p1)), .unset, .unset, .unset, .unset, .unset, .unset, .unset, .unset, .unset, .unset] [(.int (16 : Int32)), (.int p1)])) _
    refine XS.iushr X0.here hx rfl (hb hby at_7) rfl ?_
    show Steps p.tables e below (s₁.setTop (mkF m 8 #[.val (.int p1), .val (.int p2), .val (.int p3), .val (.int p4), .val (.int (nar .char p1)), .unset, .unset, .unset, .unset, .unset, .unset, .unset, .unset, .unset, .unset] [(.int (own_xs (16 : Int32) p1))])) _
    refine XS.i2c X0.here hx rfl (hb hby at_8) rfl ?_
    show Steps p.tables e below (s₁.setTop (mkF m 9 #[.val (.int p1), .val (.int p2), .val (.int p3), .val (.int p4), .val (.int (nar .char p1)), .unset, .unset, .unset, .unset, .unset, .unset, .unset, .unset, .unset, .unset] [(.int (nar .char (own_xs (16 : Int32) p1)))])) _
    refine XS.istore X0.here hx rfl (hb hby at_9) rfl (l' := #[.val (.int p1), .val (.int p2), .val (.int p3), .val (.int p4), .val (.int (nar .char p1)), .val (.int (nar .char (own_xs (16 : Int32) p1))), .unset, .unset, .unset, .unset, .unset, .unset, .unset, .unset, .unset]) rfl ?_
    show Steps p.tables e below (s₁.setTop (mkF m 11 #[.val (.int p1), .val (.int p2), .val (.int p3), .val (.int p4), .val (.int (nar .char p1)), .val (.int (nar .char (own_xs (16 : Int32) p1))), .unset, .unset, .unset, .unset, .unset, .unset, .unset, .unset, .unset] [])) _
    refine XS.iloadN X0.here hx rfl (hb hby at_11) rfl ?_
    show Steps p.tables e below (s₁.setTop (mkF m 12 #[.val (.int p1), .val (.int p2), .val (.int p3), .val (.int p4), .val (.int (nar .char p1)), .val (.int (nar .char (own_xs (16 : Int32) p1))), .unset, .unset, .unset, .unset, .unset, .unset, .unset, .unset, .unset] [(.int p2)])) _
    refine XS.i2c X0.here hx rfl (hb hby at_12) rfl ?_
    show Steps p.tables e below (s₁.setTop (mkF m 13 #[.val (.int p1), .val (.int p2), .val (.int p3), .val (.int p4), .val (.int (nar .char p1)), .val (.int (nar .char (own_xs (16 : Int32) p1))), .unset, .unset, .unset, .unset, .unset, .unset, .unset, .unset, .unset] [(.int (nar .char p2))])) _
    refine XS.istore X0.here hx rfl (hb hby at_13) rfl (l' := #[.val (.int p1), .val (.int p2), .val (.int p3), .val (.int p4), .val (.int (nar .char p1)), .val (.int (nar .char (own_xs (16 : Int32) p1))), .val (.int (nar .char p2)), .unset, .unset, .unset, .unset, .unset, .unset, .unset, .unset]) rfl ?_
    show Steps p.tables e below (s₁.setTop (mkF m 15 #[.val (.int p1), .val (.int p2), .val (.int p3), .val (.int p4), .val (.int (nar .char p1)), .val (.int (nar .char (own_xs (16 : Int32) p1))), .val (.int (nar .char p2)), .unset, .unset, .unset, .unset, .unset, .unset, .unset, .unset] [])) _
    refine XS.iloadN X0.here hx rfl (hb hby at_15) rfl ?_
    show Steps p.tables e below (s₁.setTop (mkF m 16 #[.val (.int p1), .val (.int p2), .val (.int p3), .val (.int p4), .val (.int (nar .char p1)), .val (.int (nar .char (own_xs (16 : Int32) p1))), .val (.int (nar .char p2)), .unset, .unset, .unset, .unset, .unset, .unset, .unset, .unset] [(.int p2)])) _
    refine XS.bipush X0.here hx rfl (hb hby at_16) ?_
    show Steps p.tables e below (s₁.setTop (mkF m 18 #[.val (.int p1), .val (.int p2), .val (.int p3), .val (.int p4), .val (.int (nar .char p1)), .val (.int (nar .char (own_xs (16 : Int32) p1))), .val (.int (nar .char p2)), .unset, .unset, .unset, .unset, .unset, .unset, .unset, .unset] [(.int (16 : Int32)), (.int p2)])) _
    refine XS.iushr X0.here hx rfl (hb hby at_18) rfl ?_
    show Steps p.tables e below (s₁.setTop (mkF m 19 #[.val (.int p1), .val (.int p2), .val (.int p3), .val (.int p4), .val (.int (nar .char p1)), .val (.int (nar .char (own_xs (16 : Int32) p1))), .val (.int (nar .char p2)), .unset, .unset, .unset, .unset, .unset, .unset, .unset, .unset] [(.int (own_xs (16 : Int32) p2))])) _
    refine XS.i2c X0.here hx rfl (hb hby at_19) rfl ?_
    show Steps p.tables e below (s₁.setTop (mkF m 20 #[.val (.int p1), .val (.int p2), .val (.int p3), .val (.int p4), .val (.int (nar .char p1)), .val (.int (nar .char (own_xs (16 : Int32) p1))), .val (.int (nar .char p2)), .unset, .unset, .unset, .unset, .unset, .unset, .unset, .unset] [(.int (nar .char (own_xs (16 : Int32) p2)))])) _
    refine XS.istore X0.here hx rfl (hb hby at_20) rfl (l' := #[.val (.int p1), .val (.int p2), .val (.int p3), .val (.int p4), .val (.int (nar .char p1)), .val (.int (nar .char (own_xs (16 : Int32) p1))), .val (.int (nar .char p2)), .val (.int (nar .char (own_xs (16 : Int32) p2))), .unset, .unset, .unset, .unset, .unset, .unset, .unset]) rfl ?_
    show Steps p.tables e below (s₁.setTop (mkF m 22 #[.val (.int p1), .val (.int p2), .val (.int p3), .val (.int p4), .val (.int (nar .char p1)), .val (.int (nar .char (own_xs (16 : Int32) p1))), .val (.int (nar .char p2)), .val (.int (nar .char (own_xs (16 : Int32) p2))), .unset, .unset, .unset, .unset, .unset, .unset, .unset] [])) _
    refine XS.iloadN X0.here hx rfl (hb hby at_22) rfl ?_
    show Steps p.tables e below (s₁.setTop (mkF m 23 #[.val (.int p1), .val (.int p2), .val (.int p3), .val (.int p4), .val (.int (nar .char p1)), .val (.int (nar .char (own_xs (16 : Int32) p1))), .val (.int (nar .char p2)), .val (.int (nar .char (own_xs (16 : Int32) p2))), .unset, .unset, .unset, .unset, .unset, .unset, .unset] [(.int p3)])) _
    refine XS.i2c X0.here hx rfl (hb hby at_23) rfl ?_
    show Steps p.tables e below (s₁.setTop (mkF m 24 #[.val (.int p1), .val (.int p2), .val (.int p3), .val (.int p4), .val (.int (nar .char p1)), .val (.int (nar .char (own_xs (16 : Int32) p1))), .val (.int (nar .char p2)), .val (.int (nar .char (own_xs (16 : Int32) p2))), .unset, .unset, .unset, .unset, .unset, .unset, .unset] [(.int (nar .char p3))])) _
    refine XS.istore X0.here hx rfl (hb hby at_24) rfl (l' := #[.val (.int p1), .val (.int p2), .val (.int p3), .val (.int p4), .val (.int (nar .char p1)), .val (.int (nar .char (own_xs (16 : Int32) p1))), .val (.int (nar .char p2)), .val (.int (nar .char (own_xs (16 : Int32) p2))), .val (.int (nar .char p3)), .unset, .unset, .unset, .unset, .unset, .unset]) rfl ?_
    show Steps p.tables e below (s₁.setTop (mkF m 26 #[.val (.int p1), .val (.int p2), .val (.int p3), .val (.int p4), .val (.int (nar .char p1)), .val (.int (nar .char (own_xs (16 : Int32) p1))), .val (.int (nar .char p2)), .val (.int (nar .char (own_xs (16 : Int32) p2))), .val (.int (nar .char p3)), .unset, .unset, .unset, .unset, .unset, .unset] [])) _
    refine XS.iloadN X0.here hx rfl (hb hby at_26) rfl ?_
    show Steps p.tables e below (s₁.setTop (mkF m 27 #[.val (.int p1), .val (.int p2), .val (.int p3), .val (.int p4), .val (.int (nar .char p1)), .val (.int (nar .char (own_xs (16 : Int32) p1))), .val (.int (nar .char p2)), .val (.int (nar .char (own_xs (16 : Int32) p2))), .val (.int (nar .char p3)), .unset, .unset, .unset, .unset, .unset, .unset] [(.int p3)])) _
    refine XS.bipush X0.here hx rfl (hb hby at_27) ?_
    show Steps p.tables e below (s₁.setTop (mkF m 29 #[.val (.int p1), .val (.int p2), .val (.int p3), .val (.int p4), .val (.int (nar .char p1)), .val (.int (nar .char (own_xs (16 : Int32) p1))), .val (.int (nar .char p2)), .val (.int (nar .char (own_xs (16 : Int32) p2))), .val (.int (nar .char p3)), .unset, .unset, .unset, .unset, .unset, .unset] [(.int (16 : Int32)), (.int p3)])) _
    refine XS.iushr X0.here hx rfl (hb hby at_29) rfl ?_
    show Steps p.tables e below (s₁.setTop (mkF m 30 #[.val (.int p1), .val (.int p2), .val (.int p3), .val (.int p4), .val (.int (nar .char p1)), .val (.int (nar .char (own_xs (16 : Int32) p1))), .val (.int (nar .char p2)), .val (.int (nar .char (own_xs (16 : Int32) p2))), .val (.int (nar .char p3)), .unset, .unset, .unset, .unset, .unset, .unset] [(.int (own_xs (16 : Int32) p3))])) _
    refine XS.i2c X0.here hx rfl (hb hby at_30) rfl ?_
    show Steps p.tables e below (s₁.setTop (mkF m 31 #[.val (.int p1), .val (.int p2), .val (.int p3), .val (.int p4), .val (.int (nar .char p1)), .val (.int (nar .char (own_xs (16 : Int32) p1))), .val (.int (nar .char p2)), .val (.int (nar .char (own_xs (16 : Int32) p2))), .val (.int (nar .char p3)), .unset, .unset, .unset, .unset, .unset, .unset] [(.int (nar .char (own_xs (16 : Int32) p3)))])) _
    refine XS.istore X0.here hx rfl (hb hby at_31) rfl (l' := #[.val (.int p1), .val (.int p2), .val (.int p3), .val (.int p4), .val (.int (nar .char p1)), .val (.int (nar .char (own_xs (16 : Int32) p1))), .val (.int (nar .char p2)), .val (.int (nar .char (own_xs (16 : Int32) p2))), .val (.int (nar .char p3)), .val (.int (nar .char (own_xs (16 : Int32) p3))), .unset, .unset, .unset, .unset, .unset]) rfl ?_
    show Steps p.tables e below (s₁.setTop (mkF m 33 #[.val (.int p1), .val (.int p2), .val (.int p3), .val (.int p4), .val (.int (nar .char p1)), .val (.int (nar .char (own_xs (16 : Int32) p1))), .val (.int (nar .char p2)), .val (.int (nar .char (own_xs (16 : Int32) p2))), .val (.int (nar .char p3)), .val (.int (nar .char (own_xs (16 : Int32) p3))), .unset, .unset, .unset, .unset, .unset] [])) _
    refine XS.iloadN X0.here hx rfl (hb hby at_33) rfl ?_
    show Steps p.tables e below (s₁.setTop (mkF m 34 #[.val (.int p1), .val (.int p2), .val (.int p3), .val (.int p4), .val (.int (nar .char p1)), .val (.int (nar .char (own_xs (16 : Int32) p1))), .val (.int (nar .char p2)), .val (.int (nar .char (own_xs (16 : Int32) p2))), .val (.int (nar .char p3)), .val (.int (nar .char (own_xs (16 : Int32) p3))), .unset, .unset, .unset, .unset, .unset] [(.int p4)])) _
    refine XS.bipush X0.here hx rfl (hb hby at_34) ?_
    show Steps p.tables e below (s₁.setTop (mkF m 36 #[.val (.int p1), .val (.int p2), .val (.int p3), .val (.int p4), .val (.int (nar .char p1)), .val (.int (nar .char (own_xs (16 : Int32) p1))), .val (.int (nar .char p2)), .val (.int (nar .char (own_xs (16 : Int32) p2))), .val (.int (nar .char p3)), .val (.int (nar .char (own_xs (16 : Int32) p3))), .unset, .unset, .unset, .unset, .unset] [(.int (16 : Int32)), (.int p4)])) _
    refine XS.iushr X0.here hx rfl (hb hby at_36) rfl ?_
    show Steps p.tables e below (s₁.setTop (mkF m 37 #[.val (.int p1), .val (.int p2), .val (.int p3), .val (.int p4), .val (.int (nar .char p1)), .val (.int (nar .char (own_xs (16 : Int32) p1))), .val (.int (nar .char p2)), .val (.int (nar .char (own_xs (16 : Int32) p2))), .val (.int (nar .char p3)), .val (.int (nar .char (own_xs (16 : Int32) p3))), .unset, .unset, .unset, .unset, .unset] [(.int (own_xs (16 : Int32) p4))])) _
    refine XS.i2c X0.here hx rfl (hb hby at_37) rfl ?_
    show Steps p.tables e below (s₁.setTop (mkF m 38 #[.val (.int p1), .val (.int p2), .val (.int p3), .val (.int p4), .val (.int (nar .char p1)), .val (.int (nar .char (own_xs (16 : Int32) p1))), .val (.int (nar .char p2)), .val (.int (nar .char (own_xs (16 : Int32) p2))), .val (.int (nar .char p3)), .val (.int (nar .char (own_xs (16 : Int32) p3))), .unset, .unset, .unset, .unset, .unset] [(.int (nar .char (own_xs (16 : Int32) p4)))])) _
    refine XS.istore X0.here hx rfl (hb hby at_38) rfl (l' := #[.val (.int p1), .val (.int p2), .val (.int p3), .val (.int p4), .val (.int (nar .char p1)), .val (.int (nar .char (own_xs (16 : Int32) p1))), .val (.int (nar .char p2)), .val (.int (nar .char (own_xs (16 : Int32) p2))), .val (.int (nar .char p3)), .val (.int (nar .char (own_xs (16 : Int32) p3))), .val (.int (nar .char (own_xs (16 : Int32) p4))), .unset, .unset, .unset, .unset]) rfl ?_
    show Steps p.tables e below (s₁.setTop (mkF m 40 #[.val (.int p1), .val (.int p2), .val (.int p3), .val (.int p4), .val (.int (nar .char p1)), .val (.int (nar .char (own_xs (16 : Int32) p1))), .val (.int (nar .char p2)), .val (.int (nar .char (own_xs (16 : Int32) p2))), .val (.int (nar .char p3)), .val (.int (nar .char (own_xs (16 : Int32) p3))), .val (.int (nar .char (own_xs (16 : Int32) p4))), .unset, .unset, .unset, .unset] [])) _
    refine XS.iloadN X0.here hx rfl (hb hby at_40) rfl ?_
    show Steps p.tables e below (s₁.setTop (mkF m 41 #[.val (.int p1), .val (.int p2), .val (.int p3), .val (.int p4), .val (.int (nar .char p1)), .val (.int (nar .char (own_xs (16 : Int32) p1))), .val (.int (nar .char p2)), .val (.int (nar .char (own_xs (16 : Int32) p2))), .val (.int (nar .char p3)), .val (.int (nar .char (own_xs (16 : Int32) p3))), .val (.int (nar .char (own_xs (16 : Int32) p4))), .unset, .unset, .unset, .unset] [(.int p4)])) _
    refine XS.bipush X0.here hx rfl (hb hby at_41) ?_
    show Steps p.tables e below (s₁.setTop (mkF m 43 #[.val (.int p1), .val (.int p2), .val (.int p3), .val (.int p4), .val (.int (nar .char p1)), .val (.int (nar .char (own_xs (16 : Int32) p1))), .val (.int (nar .char p2)), .val (.int (nar .char (own_xs (16 : Int32) p2))), .val (.int (nar .char p3)), .val (.int (nar .char (own_xs (16 : Int32) p3))), .val (.int (nar .char (own_xs (16 : Int32) p4))), .unset, .unset, .unset, .unset] [(.int (7 : Int32)), (.int p4)])) _
    refine XS.iand X0.here hx rfl (hb hby at_43) rfl ?_
    show Steps p.tables e below (s₁.setTop (mkF m 44 #[.val (.int p1), .val (.int p2), .val (.int p3), .val (.int p4), .val (.int (nar .char p1)), .val (.int (nar .char (own_xs (16 : Int32) p1))), .val (.int (nar .char p2)), .val (.int (nar .char (own_xs (16 : Int32) p2))), .val (.int (nar .char p3)), .val (.int (nar .char (own_xs (16 : Int32) p3))), .val (.int (nar .char (own_xs (16 : Int32) p4))), .unset, .unset, .unset, .unset] [(.int (p4 &&& (7 : Int32)))])) _
    refine XS.istore X0.here hx rfl (hb hby at_44) rfl (l' := #[.val (.int p1), .val (.int p2), .val (.int p3), .val (.int p4), .val (.int (nar .char p1)), .val (.int (nar .char (own_xs (16 : Int32) p1))), .val (.int (nar .char p2)), .val (.int (nar .char (own_xs (16 : Int32) p2))), .val (.int (nar .char p3)), .val (.int (nar .char (own_xs (16 : Int32) p3))), .val (.int (nar .char (own_xs (16 : Int32) p4))), .val (.int (p4 &&& (7 : Int32))), .unset, .unset, .unset]) rfl ?_
    show Steps p.tables e below (s₁.setTop (mkF m 46 #[.val (.int p1), .val (.int p2), .val (.int p3), .val (.int p4), .val (.int (nar .char p1)), .val (.int (nar .char (own_xs (16 : Int32) p1))), .val (.int (nar .char p2)), .val (.int (nar .char (own_xs (16 : Int32) p2))), .val (.int (nar .char p3)), .val (.int (nar .char (own_xs (16 : Int32) p3))), .val (.int (nar .char (own_xs (16 : Int32) p4))), .val (.int (p4 &&& (7 : Int32))), .unset, .unset, .unset] [])) _
    refine own_seg1 p1 p2 p3 p4 (nar .char p1) (nar .char (own_xs (16 : Int32) p1)) (nar .char p2) (nar .char (own_xs (16 : Int32) p2)) (nar .char p3) (nar .char (own_xs (16 : Int32) p3)) (nar .char (own_xs (16 : Int32) p4)) (p4 &&& (7 : Int32)) X0 hx hZ hw hby hml hown e0 _ ?_
    show Steps p.tables e below (s₁.setTop (mkF m 127 #[.val (.int p1), .val (.int p2), .val (.int p3), .val (.int p4), .val (.int (nar .char p1)), .val (.int (nar .char (own_xs (16 : Int32) p1))), .val (.int (nar .char p2)), .val (.int (nar .char (own_xs (16 : Int32) p2))), .val (.int (nar .char p3)), .val (.int (nar .char (own_xs (16 : Int32) p3))), .val (.int (nar .char (own_xs (16 : Int32) p4))), .val (.int (p4 &&& (7 : Int32))), .val (.int (own_pick (p4 &&& (7 : Int32)) (nar .char p1) (nar .char (own_xs (16 : Int32) p1)) (nar .char p2) (nar .char (own_xs (16 : Int32) p2)) (nar .char p3) (nar .char (own_xs (16 : Int32) p3)) (nar .char (own_xs (16 : Int32) p4)))), .unset, .unset] [])) _
    refine st1 _ ?_
    show Steps p.tables e below (T1.setTop (mkF m 130 #[.val (.int p1), .val (.int p2), .val (.int p3), .val (.int p4), .val (.int (nar .char p1)), .val (.int (nar .char (own_xs (16 : Int32) p1))), .val (.int (nar .char p2)), .val (.int (nar .char (own_xs (16 : Int32) p2))), .val (.int (nar .char p3)), .val (.int (nar .char (own_xs (16 : Int32) p3))), .val (.int (nar .char (own_xs (16 : Int32) p4))), .val (.int (p4 &&& (7 : Int32))), .val (.int (own_pick (p4 &&& (7 : Int32)) (nar .char p1) (nar .char (own_xs (16 : Int32) p1)) (nar .char p2) (nar .char (own_xs (16 : Int32) p2)) (nar .char p3) (nar .char (own_xs (16 : Int32) p3)) (nar .char (own_xs (16 : Int32) p4)))), .unset, .unset] [(.ref b1)])) _
    refine XS.dup X1.here hx rfl (hb hby at_130) rfl rfl ?_
    show Steps p.tables e below (T1.setTop (mkF m 131 #[.val (.int p1), .val (.int p2), .val (.int p3), .val (.int p4), .val (.int (nar .char p1)), .val (.int (nar .char (own_xs (16 : Int32) p1))), .val (.int (nar .char p2)), .val (.int (nar .char (own_xs (16 : Int32) p2))), .val (.int (nar .char p3)), .val (.int (nar .char (own_xs (16 : Int32) p3))), .val (.int (nar .char (own_xs (16 : Int32) p4))), .val (.int (p4 &&& (7 : Int32))), .val (.int (own_pick (p4 &&& (7 : Int32)) (nar .char p1) (nar .char (own_xs (16 : Int32) p1)) (nar .char p2) (nar .char (own_xs (16 : Int32) p2)) (nar .char p3) (nar .char (own_xs (16 : Int32) p3)) (nar .char (own_xs (16 : Int32) p4)))), .unset, .unset] [(.ref b1), (.ref b1)])) _
    refine XS.iload X1.here hx rfl (hb hby at_131) rfl ?_
    show Steps p.tables e below (T1.setTop (mkF m 133 #[.val (.int p1), .val (.int p2), .val (.int p3), .val (.int p4), .val (.int (nar .char p1)), .val (.int (nar .char (own_xs (16 : Int32) p1))), .val (.int (nar .char p2)), .val (.int (nar .char (own_xs (16 : Int32) p2))), .val (.int (nar .char p3)), .val (.int (nar .char (own_xs (16 : Int32) p3))), .val (.int (nar .char (own_xs (16 : Int32) p4))), .val (.int (p4 &&& (7 : Int32))), .val (.int (own_pick (p4 &&& (7 : Int32)) (nar .char p1) (nar .char (own_xs (16 : Int32) p1)) (nar .char p2) (nar .char (own_xs (16 : Int32) p2)) (nar .char p3) (nar .char (own_xs (16 : Int32) p3)) (nar .char (own_xs (16 : Int32) p4)))), .unset, .unset] [(.int (nar .char p1)), (.ref b1), (.ref b1)])) _
    refine XS.iload X1.here hx rfl (hb hby at_133) rfl ?_
    show Steps p.tables e below (T1.setTop (mkF m 135 #[.val (.int p1), .val (.int p2), .val (.int p3), .val (.int p4), .val (.int (nar .char p1)), .val (.int (nar .char (own_xs (16 : Int32) p1))), .val (.int (nar .char p2)), .val (.int (nar .char (own_xs (16 : Int32) p2))), .val (.int (nar .char p3)), .val (.int (nar .char (own_xs (16 : Int32) p3))), .val (.int (nar .char (own_xs (16 : Int32) p4))), .val (.int (p4 &&& (7 : Int32))), .val (.int (own_pick (p4 &&& (7 : Int32)) (nar .char p1) (nar .char (own_xs (16 : Int32) p1)) (nar .char p2) (nar .char (own_xs (16 : Int32) p2)) (nar .char p3) (nar .char (own_xs (16 : Int32) p3)) (nar .char (own_xs (16 : Int32) p4)))), .unset, .unset] [(.int (nar .char (own_xs (16 : Int32) p1))), (.int (nar .char p1)), (.ref b1), (.ref b1)])) _
    refine XS.iload X1.here hx rfl (hb hby at_135) rfl ?_
    show Steps p.tables e below (T1.setTop (mkF m 137 #[.val (.int p1), .val (.int p2), .val (.int p3), .val (.int p4), .val (.int (nar .char p1)), .val (.int (nar .char (own_xs (16 : Int32) p1))), .val (.int (nar .char p2)), .val (.int (nar .char (own_xs (16 : Int32) p2))), .val (.int (nar .char p3)), .val (.int (nar .char (own_xs (16 : Int32) p3))), .val (.int (nar .char (own_xs (16 : Int32) p4))), .val (.int (p4 &&& (7 : Int32))), .val (.int (own_pick (p4 &&& (7 : Int32)) (nar .char p1) (nar .char (own_xs (16 : Int32) p1)) (nar .char p2) (nar .char (own_xs (16 : Int32) p2)) (nar .char p3) (nar .char (own_xs (16 : Int32) p3)) (nar .char (own_xs (16 : Int32) p4)))), .unset, .unset] [(.int (nar .char p2)), (.int (nar .char (own_xs (16 : Int32) p1))), (.int (nar .char p1)), (.ref b1), (.ref b1)])) _
    refine XS.iload X1.here hx rfl (hb hby at_137) rfl ?_
    show Steps p.tables e below (T1.setTop (mkF m 139 #[.val (.int p1), .val (.int p2), .val (.int p3), .val (.int p4), .val (.int (nar .char p1)), .val (.int (nar .char (own_xs (16 : Int32) p1))), .val (.int (nar .char p2)), .val (.int (nar .char (own_xs (16 : Int32) p2))), .val (.int (nar .char p3)), .val (.int (nar .char (own_xs (16 : Int32) p3))), .val (.int (nar .char (own_xs (16 : Int32) p4))), .val (.int (p4 &&& (7 : Int32))), .val (.int (own_pick (p4 &&& (7 : Int32)) (nar .char p1) (nar .char (own_xs (16 : Int32) p1)) (nar .char p2) (nar .char (own_xs (16 : Int32) p2)) (nar .char p3) (nar .char (own_xs (16 : Int32) p3)) (nar .char (own_xs (16 : Int32) p4)))), .unset, .unset] [(.int (nar .char (own_xs (16 : Int32) p2))), (.int (nar .char p2)), (.int (nar .char (own_xs (16 : Int32) p1))), (.int (nar .char p1)), (.ref b1), (.ref b1)])) _
    refine XS.iload X1.here hx rfl (hb hby at_139) rfl ?_
    show Steps p.tables e below (T1.setTop (mkF m 141 #[.val (.int p1), .val (.int p2), .val (.int p3), .val (.int p4), .val (.int (nar .char p1)), .val (.int (nar .char (own_xs (16 : Int32) p1))), .val (.int (nar .char p2)), .val (.int (nar .char (own_xs (16 : Int32) p2))), .val (.int (nar .char p3)), .val (.int (nar .char (own_xs (16 : Int32) p3))), .val (.int (nar .char (own_xs (16 : Int32) p4))), .val (.int (p4 &&& (7 : Int32))), .val (.int (own_pick (p4 &&& (7 : Int32)) (nar .char p1) (nar .char (own_xs (16 : Int32) p1)) (nar .char p2) (nar .char (own_xs (16 : Int32) p2)) (nar .char p3) (nar .char (own_xs (16 : Int32) p3)) (nar .char (own_xs (16 : Int32) p4)))), .unset, .unset] [(.int (nar .char p3)), (.int (nar .char (own_xs (16 : Int32) p2))), (.int (nar .char p2)), (.int (nar .char (own_xs (16 : Int32) p1))), (.int (nar .char p1)), (.ref b1), (.ref b1)])) _
    refine XS.iload X1.here hx rfl (hb hby at_141) rfl ?_
    show Steps p.tables e below (T1.setTop (mkF m 143 #[.val (.int p1), .val (.int p2), .val (.int p3), .val (.int p4), .val (.int (nar .char p1)), .val (.int (nar .char (own_xs (16 : Int32) p1))), .val (.int (nar .char p2)), .val (.int (nar .char (own_xs (16 : Int32) p2))), .val (.int (nar .char p3)), .val (.int (nar .char (own_xs (16 : Int32) p3))), .val (.int (nar .char (own_xs (16 : Int32) p4))), .val (.int (p4 &&& (7 : Int32))), .val (.int (own_pick (p4 &&& (7 : Int32)) (nar .char p1) (nar .char (own_xs (16 : Int32) p1)) (nar .char p2) (nar .char (own_xs (16 : Int32) p2)) (nar .char p3) (nar .char (own_xs (16 : Int32) p3)) (nar .char (own_xs (16 : Int32) p4)))), .unset, .unset] [(.int (nar .char (own_xs (16 : Int32) p3))), (.int (nar .char p3)), (.int (nar .char (own_xs (16 : Int32) p2))), (.int (nar .char p2)), (.int (nar .char (own_xs (16 : Int32) p1))), (.int (nar .char p1)), (.ref b1), (.ref b1)])) _
    refine st3.trans ?_
    show Steps p.tables e below (T3.setTop (mkF m 146 #[.val (.int p1), .val (.int p2), .val (.int p3), .val (.int p4), .val (.int (nar .char p1)), .val (.int (nar .char (own_xs (16 : Int32) p1))), .val (.int (nar .char p2)), .val (.int (nar .char (own_xs (16 : Int32) p2))), .val (.int (nar .char p3)), .val (.int (nar .char (own_xs (16 : Int32) p3))), .val (.int (nar .char (own_xs (16 : Int32) p4))), .val (.int (p4 &&& (7 : Int32))), .val (.int (own_pick (p4 &&& (7 : Int32)) (nar .char p1) (nar .char (own_xs (16 : Int32) p1)) (nar .char p2) (nar .char (own_xs (16 : Int32) p2)) (nar .char p3) (nar .char (own_xs (16 : Int32) p3)) (nar .char (own_xs (16 : Int32) p4)))), .unset, .unset] [(.ref b1)])) _
    refine XS.astore X3.here hx rfl (hb hby at_146) rfl rfl (l' := #[.val (.int p1), .val (.int p2), .val (.int p3), .val (.int p4), .val (.int (nar .char p1)), .val (.int (nar .char (own_xs (16 : Int32) p1))), .val (.int (nar .char p2)), .val (.int (nar .char (own_xs (16 : Int32) p2))), .val (.int (nar .char p3)), .val (.int (nar .char (own_xs (16 : Int32) p3))), .val (.int (nar .char (own_xs (16 : Int32) p4))), .val (.int (p4 &&& (7 : Int32))), .val (.int (own_pick (p4 &&& (7 : Int32)) (nar .char p1) (nar .char (own_xs (16 : Int32) p1)) (nar .char p2) (nar .char (own_xs (16 : Int32) p2)) (nar .char p3) (nar .char (own_xs (16 : Int32) p3)) (nar .char (own_xs (16 : Int32) p4)))), .val (.ref b1), .unset]) rfl ?_
    show Steps p.tables e below (T3.setTop (mkF m 148 #[.val (.int p1), .val (.int p2), .val (.int p3), .val (.int p4), .val (.int (nar .char p1)), .val (.int (nar .char (own_xs (16 : Int32) p1))), .val (.int (nar .char p2)), .val (.int (nar .char (own_xs (16 : Int32) p2))), .val (.int (nar .char p3)), .val (.int (nar .char (own_xs (16 : Int32) p3))), .val (.int (nar .char (own_xs (16 : Int32) p4))), .val (.int (p4 &&& (7 : Int32))), .val (.int (own_pick (p4 &&& (7 : Int32)) (nar .char p1) (nar .char (own_xs (16 : Int32) p1)) (nar .char p2) (nar .char (own_xs (16 : Int32) p2)) (nar .char p3) (nar .char (own_xs (16 : Int32) p3)) (nar .char (own_xs (16 : Int32) p4)))), .val (.ref b1), .unset] [])) _
    refine own_seg2 p1 p2 p3 p4 (nar .char p1) (nar .char (own_xs (16 : Int32) p1)) (nar .char p2) (nar .char (own_xs (16 : Int32) p2)) (nar .char p3) (nar .char (own_xs (16 : Int32) p3)) (nar .char (own_xs (16 : Int32) p4)) (p4 &&& (7 : Int32)) (own_pick (p4 &&& (7 : Int32)) (nar .char p1) (nar .char (own_xs (16 : Int32) p1)) (nar .char p2) (nar .char (own_xs (16 : Int32) p2)) (nar .char p3) (nar .char (own_xs (16 : Int32) p3)) (nar .char (own_xs (16 : Int32) p4))) b1 X3 hx hZ hw hby hml hown rfl _ ?_
    show Steps p.tables e below (T3.setTop (mkF m 183 #[.val (.int p1), .val (.int p2), .val (.int p3), .val (.int p4), .val (.int (nar .char p1)), .val (.int (nar .char (own_xs (16 : Int32) p1))), .val (.int (nar .char p2)), .val (.int (nar .char (own_xs (16 : Int32) p2))), .val (.int (nar .char p3)), .val (.int (nar .char (own_xs (16 : Int32) p3))), .val (.int (nar .char (own_xs (16 : Int32) p4))), .val (.int (p4 &&& (7 : Int32))), .val (.int (own_pick (p4 &&& (7 : Int32)) (nar .char p1) (nar .char (own_xs (16 : Int32) p1)) (nar .char p2) (nar .char (own_xs (16 : Int32) p2)) (nar .char p3) (nar .char (own_xs (16 : Int32) p3)) (nar .char (own_xs (16 : Int32) p4)))), .val (.ref b1), .val (.int (own_exp (own_pick (p4 &&& (7 : Int32)) (nar .char p1) (nar .char (own_xs (16 : Int32) p1)) (nar .char p2) (nar .char (own_xs (16 : Int32) p2)) (nar .char p3) (nar .char (own_xs (16 : Int32) p3)) (nar .char (own_xs (16 : Int32) p4))) (nar .char p1) (nar .char (own_xs (16 : Int32) p1)) (nar .char (own_xs (16 : Int32) p2)) (nar .char (own_xs (16 : Int32) p3))))] [])) _
    refine XS.aload X3.here hx rfl (hb hby at_183) rfl rfl ?_
    show Steps p.tables e below (T3.setTop (mkF m 185 #[.val (.int p1), .val (.int p2), .val (.int p3), .val (.int p4), .val (.int (nar .char p1)), .val (.int (nar .char (own_xs (16 : Int32) p1))), .val (.int (nar .char p2)), .val (.int (nar .char (own_xs (16 : Int32) p2))), .val (.int (nar .char p3)), .val (.int (nar .char (own_xs (16 : Int32) p3))), .val (.int (nar .char (own_xs (16 : Int32) p4))), .val (.int (p4 &&& (7 : Int32))), .val (.int (own_pick (p4 &&& (7 : Int32)) (nar .char p1) (nar .char (own_xs (16 : Int32) p1)) (nar .char p2) (nar .char (own_xs (16 : Int32) p2)) (nar .char p3) (nar .char (own_xs (16 : Int32) p3)) (nar .char (own_xs (16 : Int32) p4)))), .val (.ref b1), .val (.int (own_exp (own_pick (p4 &&& (7 : Int32)) (nar .char p1) (nar .char (own_xs (16 : Int32) p1)) (nar .char p2) (nar .char (own_xs (16 : Int32) p2)) (nar .char p3) (nar .char (own_xs (16 : Int32) p3)) (nar .char (own_xs (16 : Int32) p4))) (nar .char p1) (nar .char (own_xs (16 : Int32) p1)) (nar .char (own_xs (16 : Int32) p2)) (nar .char (own_xs (16 : Int32) p3))))] [(.ref b1)])) _
    refine XS.iload X3.here hx rfl (hb hby at_185) rfl ?_
    show Steps p.tables e below (T3.setTop (mkF m 187 #[.val (.int p1), .val (.int p2), .val (.int p3), .val (.int p4), .val (.int (nar .char p1)), .val (.int (nar .char (own_xs (16 : Int32) p1))), .val (.int (nar .char p2)), .val (.int (nar .char (own_xs (16 : Int32) p2))), .val (.int (nar .char p3)), .val (.int (nar .char (own_xs (16 : Int32) p3))), .val (.int (nar .char (own_xs (16 : Int32) p4))), .val (.int (p4 &&& (7 : Int32))), .val (.int (own_pick (p4 &&& (7 : Int32)) (nar .char p1) (nar .char (own_xs (16 : Int32) p1)) (nar .char p2) (nar .char (own_xs (16 : Int32) p2)) (nar .char p3) (nar .char (own_xs (16 : Int32) p3)) (nar .char (own_xs (16 : Int32) p4)))), .val (.ref b1), .val (.int (own_exp (own_pick (p4 &&& (7 : Int32)) (nar .char p1) (nar .char (own_xs (16 : Int32) p1)) (nar .char p2) (nar .char (own_xs (16 : Int32) p2)) (nar .char p3) (nar .char (own_xs (16 : Int32) p3)) (nar .char (own_xs (16 : Int32) p4))) (nar .char p1) (nar .char (own_xs (16 : Int32) p1)) (nar .char (own_xs (16 : Int32) p2)) (nar .char (own_xs (16 : Int32) p3))))] [(.int (own_pick (p4 &&& (7 : Int32)) (nar .char p1) (nar .char (own_xs (16 : Int32) p1)) (nar .char p2) (nar .char (own_xs (16 : Int32) p2)) (nar .char p3) (nar .char (own_xs (16 : Int32) p3)) (nar .char (own_xs (16 : Int32) p4)))), (.ref b1)])) _
    refine st9.trans ?_
    show Steps p.tables e below (T9.setTop (mkF m 190 #[.val (.int p1), .val (.int p2), .val (.int p3), .val (.int p4), .val (.int (nar .char p1)), .val (.int (nar .char (own_xs (16 : Int32) p1))), .val (.int (nar .char p2)), .val (.int (nar .char (own_xs (16 : Int32) p2))), .val (.int (nar .char p3)), .val (.int (nar .char (own_xs (16 : Int32) p3))), .val (.int (nar .char (own_xs (16 : Int32) p4))), .val (.int (p4 &&& (7 : Int32))), .val (.int (own_pick (p4 &&& (7 : Int32)) (nar .char p1) (nar .char (own_xs (16 : Int32) p1)) (nar .char p2) (nar .char (own_xs (16 : Int32) p2)) (nar .char p3) (nar .char (own_xs (16 : Int32) p3)) (nar .char (own_xs (16 : Int32) p4)))), .val (.ref b1), .val (.int (own_exp (own_pick (p4 &&& (7 : Int32)) (nar .char p1) (nar .char (own_xs (16 : Int32) p1)) (nar .char p2) (nar .char (own_xs (16 : Int32) p2)) (nar .char p3) (nar .char (own_xs (16 : Int32) p3)) (nar .char (own_xs (16 : Int32) p4))) (nar .char p1) (nar .char (own_xs (16 : Int32) p1)) (nar .char (own_xs (16 : Int32) p2)) (nar .char (own_xs (16 : Int32) p3))))] [(.int (own_syn (own_pick (p4 &&& (7 : Int32)) (nar .char p1) (nar .char (own_xs (16 : Int32) p1)) (nar .char p2) (nar .char (own_xs (16 : Int32) p2)) (nar .char p3) (nar .char (own_xs (16 : Int32) p3)) (nar .char (own_xs (16 : Int32) p4))) (nar .char (nar .char p1)) (nar .char (nar .char (own_xs (16 : Int32) p1))) (nar .char (nar .char (own_xs (16 : Int32) p2))) (nar .char (nar .char (own_xs (16 : Int32) p3)))))])) _
    refine XS.iload X9.here hx rfl (hb hby at_190) rfl ?_
    show Steps p.tables e below (T9.setTop (mkF m 192 #[.val (.int p1), .val (.int p2), .val (.int p3), .val (.int p4), .val (.int (nar .char p1)), .val (.int (nar .char (own_xs (16 : Int32) p1))), .val (.int (nar .char p2)), .val (.int (nar .char (own_xs (16 : Int32) p2))), .val (.int (nar .char p3)), .val (.int (nar .char (own_xs (16 : Int32) p3))), .val (.int (nar .char (own_xs (16 : Int32) p4))), .val (.int (p4 &&& (7 : Int32))), .val (.int (own_pick (p4 &&& (7 : Int32)) (nar .char p1) (nar .char (own_xs (16 : Int32) p1)) (nar .char p2) (nar .char (own_xs (16 : Int32) p2)) (nar .char p3) (nar .char (own_xs (16 : Int32) p3)) (nar .char (own_xs (16 : Int32) p4)))), .val (.ref b1), .val (.int (own_exp (own_pick (p4 &&& (7 : Int32)) (nar .char p1) (nar .char (own_xs (16 : Int32) p1)) (nar .char p2) (nar .char (own_xs (16 : Int32) p2)) (nar .char p3) (nar .char (own_xs (16 : Int32) p3)) (nar .char (own_xs (16 : Int32) p4))) (nar .char p1) (nar .char (own_xs (16 : Int32) p1)) (nar .char (own_xs (16 : Int32) p2)) (nar .char (own_xs (16 : Int32) p3))))] [(.int (own_exp (own_pick (p4 &&& (7 : Int32)) (nar .char p1) (nar .char (own_xs (16 : Int32) p1)) (nar .char p2) (nar .char (own_xs (16 : Int32) p2)) (nar .char p3) (nar .char (own_xs (16 : Int32) p3)) (nar .char (own_xs (16 : Int32) p4))) (nar .char p1) (nar .char (own_xs (16 : Int32) p1)) (nar .char (own_xs (16 : Int32) p2)) (nar .char (own_xs (16 : Int32) p3)))), (.int (own_syn (own_pick (p4 &&& (7 : Int32)) (nar .char p1) (nar .char (own_xs (16 : Int32) p1)) (nar .char p2) (nar .char (own_xs (16 : Int32) p2)) (nar .char p3) (nar .char (own_xs (16 : Int32) p3)) (nar .char (own_xs (16 : Int32) p4))) (nar .char (nar .char p1)) (nar .char (nar .char (own_xs (16 : Int32) p1))) (nar .char (nar .char (own_xs (16 : Int32) p2))) (nar .char (nar .char (own_xs (16 : Int32) p3)))))])) _
    refine XS.icmpNo X9.here hx rfl (hb hby at_192) rfl (teq (own_fin _ p1 (own_xs (16 : Int32) p1) (own_xs (16 : Int32) p2) (own_xs (16 : Int32) p3) : (own_syn (own_pick (p4 &&& (7 : Int32)) (nar .char p1) (nar .char (own_xs (16 : Int32) p1)) (nar .char p2) (nar .char (own_xs (16 : Int32) p2)) (nar .char p3) (nar .char (own_xs (16 : Int32) p3)) (nar .char (own_xs (16 : Int32) p4))) (nar .char (nar .char p1)) (nar .char (nar .char (own_xs (16 : Int32) p1))) (nar .char (nar .char (own_xs (16 : Int32) p2))) (nar .char (nar .char (own_xs (16 : Int32) p3)))) = (own_exp (own_pick (p4 &&& (7 : Int32)) (nar .char p1) (nar .char (own_xs (16 : Int32) p1)) (nar .char p2) (nar .char (own_xs (16 : Int32) p2)) (nar .char p3) (nar .char (own_xs (16 : Int32) p3)) (nar .char (own_xs (16 : Int32) p4))) (nar .char p1) (nar .char (own_xs (16 : Int32) p1)) (nar .char (own_xs (16 : Int32) p2)) (nar .char (own_xs (16 : Int32) p3))))).2 ?_
    show Steps p.tables e below (T9.setTop (mkF m 195 #[.val (.int p1), .val (.int p2), .val (.int p3), .val (.int p4), .val (.int (nar .char p1)), .val (.int (nar .char (own_xs (16 : Int32) p1))), .val (.int (nar .char p2)), .val (.int (nar .char (own_xs (16 : Int32) p2))), .val (.int (nar .char p3)), .val (.int (nar .char (own_xs (16 : Int32) p3))), .val (.int (nar .char (own_xs (16 : Int32) p4))), .val (.int (p4 &&& (7 : Int32))), .val (.int (own_pick (p4 &&& (7 : Int32)) (nar .char p1) (nar .char (own_xs (16 : Int32) p1)) (nar .char p2) (nar .char (own_xs (16 : Int32) p2)) (nar .char p3) (nar .char (own_xs (16 : Int32) p3)) (nar .char (own_xs (16 : Int32) p4)))), .val (.ref b1), .val (.int (own_exp (own_pick (p4 &&& (7 : Int32)) (nar .char p1) (nar .char (own_xs (16 : Int32) p1)) (nar .char p2) (nar .char (own_xs (16 : Int32) p2)) (nar .char p3) (nar .char (own_xs (16 : Int32) p3)) (nar .char (own_xs (16 : Int32) p4))) (nar .char p1) (nar .char (own_xs (16 : Int32) p1)) (nar .char (own_xs (16 : Int32) p2)) (nar .char (own_xs (16 : Int32) p3))))] [])) _
    refine XS.iconst X9.here hx rfl (hb hby at_195) ?_
    show Steps p.tables e below (T9.setTop (mkF m 196 #[.val (.int p1), .val (.int p2), .val (.int p3), .val (.int p4), .val (.int (nar .char p1)), .val (.int (nar .char (own_xs (16 : Int32) p1))), .val (.int (nar .char p2)), .val (.int (nar .char (own_xs (16 : Int32) p2))), .val (.int (nar .char p3)), .val (.int (nar .char (own_xs (16 : Int32) p3))), .val (.int (nar .char (own_xs (16 : Int32) p4))), .val (.int (p4 &&& (7 : Int32))), .val (.int (own_pick (p4 &&& (7 : Int32)) (nar .char p1) (nar .char (own_xs (16 : Int32) p1)) (nar .char p2) (nar .char (own_xs (16 : Int32) p2)) (nar .char p3) (nar .char (own_xs (16 : Int32) p3)) (nar .char (own_xs (16 : Int32) p4)))), .val (.ref b1), .val (.int (own_exp (own_pick (p4 &&& (7 : Int32)) (nar .char p1) (nar .char (own_xs (16 : Int32) p1)) (nar .char p2) (nar .char (own_xs (16 : Int32) p2)) (nar .char p3) (nar .char (own_xs (16 : Int32) p3)) (nar .char (own_xs (16 : Int32) p4))) (nar .char p1) (nar .char (own_xs (16 : Int32) p1)) (nar .char (own_xs (16 : Int32) p2)) (nar .char (own_xs (16 : Int32) p3))))] [(.int (1 : Int32))])) _
    refine XS.goto X9.here hx rfl (pc0 := 196) (pc' := 200) rfl (hb hby at_196) (by decide) (by decide) ?_
    show Steps p.tables e below (T9.setTop (mkF m 200 #[.val (.int p1), .val (.int p2), .val (.int p3), .val (.int p4), .val (.int (nar .char p1)), .val (.int (nar .char (own_xs (16 : Int32) p1))), .val (.int (nar .char p2)), .val (.int (nar .char (own_xs (16 : Int32) p2))), .val (.int (nar .char p3)), .val (.int (nar .char (own_xs (16 : Int32) p3))), .val (.int (nar .char (own_xs (16 : Int32) p4))), .val (.int (p4 &&& (7 : Int32))), .val (.int (own_pick (p4 &&& (7 : Int32)) (nar .char p1) (nar .char (own_xs (16 : Int32) p1)) (nar .char p2) (nar .char (own_xs (16 : Int32) p2)) (nar .char p3) (nar .char (own_xs (16 : Int32) p3)) (nar .char (own_xs (16 : Int32) p4)))), .val (.ref b1), .val (.int (own_exp (own_pick (p4 &&& (7 : Int32)) (nar .char p1) (nar .char (own_xs (16 : Int32) p1)) (nar .char p2) (nar .char (own_xs (16 : Int32) p2)) (nar .char p3) (nar .char (own_xs (16 : Int32) p3)) (nar .char (own_xs (16 : Int32) p4))) (nar .char p1) (nar .char (own_xs (16 : Int32) p1)) (nar .char (own_xs (16 : Int32) p2)) (nar .char (own_xs (16 : Int32) p3))))] [(.int (1 : Int32))])) _
    exact retN X9 hx (t := .boolean) Bd.returns (by simp) (hb hby at_200) hr
  · show Qrm0 Z p1 p2 p3 p4 sp kS h0 n0 _ T9.heap _
    rw [e9]
    exact ⟨rfl, N9⟩
set_option maxRecDepth 65536 in
set_option maxHeartbeats 40000000 in
theorem comes_1 {Post : Tables → Env → Array Value → State → Outcome → State → Prop} (hpost : ∀ tb e args s v u, (limb_1_1.after args s (.returned v) u = true ∧ limb_1_2.after args s (.returned v) u = true ∧ True) → FrameEnd s (.returned v) u (Jvm.fieldLocs frame_1_writes args s ++ Jvm.arrayLocs frame_1_arrays args s ++ Jvm.staticLocs frame_1_statics s) 16 128 → Post tb e args s (.returned v) u) :
    ArmFor flags0 classFile x code maxLocals ret World_1 tables_1 room_1 Calls_1 rest_1 Pre_1 Post := by
  intro l hfl _ _ p e ha hc hk s m args below hf hA hF happ hP
  obtain ⟨hcalls, hrest, hpre⟩ := hP
  obtain ⟨-, -, -, hnamed, -, -, -, hat⟩ := (Spec.applies_iff hf).mp happ
  obtain ⟨hg, hn⟩ := and_e (Cond.before_iff.mp (show (Jvm.Cond.and given_1 narrow_1).before args s = true from hpre))
  obtain ⟨gv1, gv2⟩ := and_e hg
  obtain ⟨gv3, gv4⟩ := and_e gv2
  obtain ⟨gv5, gv6⟩ := and_e gv4
  obtain ⟨gv7, gv8⟩ := and_e gv6
  obtain ⟨w0, w1, w2, w3, rfl⟩ : ∃ w0 w1 w2 w3 : Value, args = #[w0, w1, w2, w3] := by
    have hs : args.size = 4 := by simpa [Cond.value, given_1] using gv1
    obtain ⟨L⟩ := args
    match L, hs with
    | [w0, w1, w2, w3], _ => exact ⟨w0, w1, w2, w3, rfl⟩
  have hw := fun d (hd : d ∈ tables_1) => atoms_spec (ws := Jvm.Cond.code x code maxLocals ret :: tables_1) hat d (List.mem_cons_of_mem _ hd)
  have hfit : Fit s := fun {y c} hc i hi => by
    obtain ⟨ha, rfl⟩ := Array.getElem?_eq_some_iff.mp hc
    have q := List.all_eq_true.mp ((Array.all_eq_true_iff_forall_mem.mp hF) _ (Array.getElem_mem ha)) i (List.mem_range.mpr hi)
    simpa [Array.getElem?_eq_getElem hi] using q
  obtain ⟨i0, ei0⟩ := is_v gv3
  obtain rfl : w0 = (.int i0) := Option.some.inj ei0
  obtain ⟨i1, ei1⟩ := is_v gv5
  obtain rfl : w1 = (.int i1) := Option.some.inj ei1
  obtain ⟨i2, ei2⟩ := is_v gv7
  obtain rfl : w2 = (.int i2) := Option.some.inj ei2
  obtain ⟨i3, ei3⟩ := is_v gv8
  obtain rfl : w3 = (.int i3) := Option.some.inj ei3
  obtain ⟨n1, hn⟩ := and_e hn
  obtain ⟨n2, hn⟩ := and_e hn
  obtain ⟨n3, hn⟩ := and_e hn
  obtain ⟨n4, hn⟩ := and_e hn
  obtain ⟨n5, n6⟩ := and_e hn
  obtain ⟨sp, ev⟩ := arr_v n1
  have S_sp := Sta.start ev (Or.inr ⟨(hw _ (List.mem_of_getElem? (i := 2) rfl)), (hw _ (List.mem_of_getElem? (i := 18) rfl))⟩)
  obtain ⟨cl, Ar⟩ := Arr.start ev n1
  have L4 := own_eqI n2
  obtain ⟨sp', cl', ev', ha', h31, hsz⟩ := Jvm.Lib.length_spec L4
  cases ev.symm.trans ev'
  obtain rfl : cl = cl' := by
    have q := IntBox.arrayAt_of Ar.1 Ar.2.1 Ar.2.2
    exact Option.some.inj (q.symm.trans ha')
  have g0 := (elem_in (own_eqI n3) ev (Term.int_eval _) Ar.1).2
  have g1 := (elem_in (own_eqI n4) ev (Term.int_eval _) Ar.1).2
  have g2 := (elem_in (own_eqI n5) ev (Term.int_eval _) Ar.1).2
  have g3 := (elem_in (own_eqI n6) ev (Term.int_eval _) Ar.1).2
  have V_sp : Arv s s.heap sp cl.cls .int (4 : Int32) [(.int (0 : Int32)), (.int (1 : Int32)), (.int (3 : Int32)), (.int (5 : Int32))] (.int (0 : Int32)) := Arv.start hfit Ar h31 (Value.int.inj hsz).symm (by decide) rfl ⟨g0, g1, g2, g3, trivial⟩
  obtain ⟨n, o, h1, h2, h3, _, L, rfl, ⟨rfl, N⟩, hq⟩ := rm0 l s _ hw tables_1 i0 i1 i2 i3 sp cl.cls s.heap s.heap.size (Nat.le_refl _) S_sp V_sp p e ha hc hk s m _ below hf ((Spec.applies_iff_loose hf).mp happ).1 ⟨rfl, State.Warmed39.refl s, rfl⟩ trivial
  refine ⟨n, _, h1, h2, h3, hpost _ _ _ _ _ _ ⟨Cond.after_iff.mpr rfl, Cond.after_iff.mpr (eq_i res_at (Term.int_eval (1)) rfl), trivial⟩ ⟨hq.1, hq.2.1, (hq.2.2.sift fun y hy => Or.inr (N y hy)).mono (by decide) (by decide)⟩⟩
theorem main_1_1 : Claimed_1_1 := comes_1 fun _ _ _ _ _ _ h hF => ⟨h.1, hF⟩
theorem main_1_2 : Claimed_1_2 := comes_1 fun _ _ _ _ _ _ h hF => ⟨h.2.1, hF⟩
end Jvm.Pilot.@@N@@
namespace Jvm.Pilot.@@N@@
open Jvm Jvm.ClassFile Sem Op Lib Jvm.Free Jvm.Stand Jvm.Pilot.@@N@@.Jvm.D
/-! MADE BY PROGRAM (witnessworld.py) out of the Statement's table words and the real class files: 11 classes; the members and pool entries that the words name. The judged class is class 1, her method 1. -/
namespace start1
open Jvm.ClassFile
def u (s : String) : CpInfo := .utf8 (stringToUtf16 s)
/-- a pool by its gaps: so many unusable entries, then the entry; so many at the end -/
def gap : Nat → List CpInfo → List CpInfo
  | 0, r => r
  | n + 1, r => .unusable :: gap n r
def poolList (es : List (Nat × CpInfo)) (last : Nat) : List CpInfo := es.foldr (fun e r => gap e.1 (e.2 :: r)) (gap last [])
def pool (es : List (Nat × CpInfo)) (last : Nat) : Array CpInfo := ⟨poolList es last⟩
def fileOf (pool : Array CpInfo) (this : Nat) (attrs : Array Attribute := #[]) (ms : Array MethodInfo := #[]) (fl : Nat := 33) (sup : Nat := 0) (ifs : Array Nat := #[]) (fds : Array FieldInfo := #[]) : ClassFile where
  minorVersion := 0
  majorVersion := 65
  constantPool := pool
  accessFlags := fl
  thisClass := this
  superClass := sup
  interfaces := ifs
  fields := fds
  methods := ms
  attributes := attrs
def plain (name : String) (sup : Option ClassId) : Class where
  name := name
  kind := .ordinary
  loader := none
  accessFlags := 33
  super := sup
  interfaces := #[]
  cf := none
  fields := #[]
  methods := #[]
  instanceTypes := #[]
  staticTypes := #[]
  resolved := #[]
  callSites := []
  init := .initialized
  statics := none
  mirror := none

def pool0 : Array CpInfo := pool [(5, u "<init>"), (0, u "()V"), (1, .class_ 10), (1, u "java/lang/Object")] 113

def k0c0 : Code := { maxStack := 0, maxLocals := 1, code := object_method_1_code, exceptionTable := #[], attributes := #[] }
def k0m0 : Method := { name := "<init>", desc := "()V", sig := { parameters := [], returnType := none }, accessFlags := 1, code := some k0c0 }
/-- java/lang/Object -/
def k0 : Class := { plain "java/lang/Object" none with
  accessFlags := 33
  interfaces := #[]
  cf := some (fileOf pool0 8 #[] #[{ accessFlags := 1, nameIndex := 5, descriptorIndex := 6, attributes := #[] }] 33 0 #[] #[])
  fields := #[]
  methods := #[k0m0]
  instanceTypes := #[]
  staticTypes := #[]
  resolved := Array.replicate 124 none
  statics := none }

def pool1 : Array CpInfo := pool [(2, .class_ 4), (1, u "java/lang/Object"), (0, u "<init>"), (0, u "()V"), (0, .class_ 8), (0, u "com/example/fjordwire/fjordwire/model/ServiceCharacters"), (0, .methodref 7 10), (0, .nameAndType 5 11), (0, u "(CCCCCC)V"), (0, .methodref 7 13), (0, .nameAndType 14 15), (0, u "isSyntaxCharacter"), (0, u "(C)Z"), (0, .class_ 17), (0, u "com/example/fjordwire/fjordwire/model/ServiceCharactersIsSyntaxCharacterPinLaw"), (2, u "law"), (0, u "(IIII)Z")] 3

def k1m0 : Method := { name := "<init>", desc := "()V", sig := { parameters := [], returnType := none }, accessFlags := 2, code := none }
def k1c1 : Code := { maxStack := 8, maxLocals := 15, code := code, exceptionTable := #[], attributes := #[] }
def k1m1 : Method := { name := "law", desc := "(IIII)Z", sig := { parameters := [.int, .int, .int, .int], returnType := some .boolean }, accessFlags := 9, code := some k1c1 }
/-- com/example/fjordwire/fjordwire/model/ServiceCharactersIsSyntaxCharacterPinLaw -/
def k1 : Class := { plain "com/example/fjordwire/fjordwire/model/ServiceCharactersIsSyntaxCharacterPinLaw" (some 0) with
  accessFlags := 49
  interfaces := #[]
  cf := some (fileOf pool1 16 #[] #[{ accessFlags := 2, nameIndex := 5, descriptorIndex := 6, attributes := #[] }, { accessFlags := 9, nameIndex := 20, descriptorIndex := 21, attributes := #[] }] 49 2 #[] #[])
  fields := #[]
  methods := #[k1m0, k1m1]
  instanceTypes := #[]
  staticTypes := #[]
  resolved := Array.replicate 25 none
  statics := none }

def pool2 : Array CpInfo := pool [(1, .methodref 2 3), (0, .class_ 4), (0, .nameAndType 5 6), (0, u "java/lang/Object"), (0, u "<init>"), (0, u "()V"), (0, .fieldref 8 9), (0, .class_ 10), (0, .nameAndType 11 12), (0, u "com/example/fjordwire/fjordwire/model/ServiceCharacters"), (0, u "m_characters"), (0, u "[C"), (5, .fieldref 8 19), (0, .nameAndType 20 21), (0, u "SYNTAX_POSITIONS"), (0, u "[I"), (2, u "NAMES"), (0, u "[Ljava/lang/String;"), (16, u "(CCCCCC)V"), (2, u "DEFAULTS"), (0, u "Lcom/example/fjordwire/fjordwire/model/ServiceCharacters;"), (26, u "(C)Z"), (1, u "isSyntaxCharacter")] 22

def k2c0 : Code := { maxStack := 5, maxLocals := 7, code := prog_130_method_1_code, exceptionTable := #[], attributes := #[] }
def k2m0 : Method := { name := "<init>", desc := "(CCCCCC)V", sig := { parameters := [.char, .char, .char, .char, .char, .char], returnType := none }, accessFlags := 1, code := some k2c0 }
def k2c1 : Code := { maxStack := 2, maxLocals := 6, code := prog_130_method_10_code, exceptionTable := #[], attributes := #[] }
def k2m1 : Method := { name := "isSyntaxCharacter", desc := "(C)Z", sig := { parameters := [.char], returnType := some .boolean }, accessFlags := 1, code := some k2c1 }
/-- com/example/fjordwire/fjordwire/model/ServiceCharacters -/
def k2 : Class := { plain "com/example/fjordwire/fjordwire/model/ServiceCharacters" (some 0) with
  accessFlags := 49
  interfaces := #[]
  cf := some (fileOf pool2 8 #[] #[{ accessFlags := 1, nameIndex := 5, descriptorIndex := 42, attributes := #[] }, { accessFlags := 1, nameIndex := 75, descriptorIndex := 73, attributes := #[] }] 49 2 #[] #[{ accessFlags := 25, nameIndex := 45, descriptorIndex := 46, attributes := #[] }, { accessFlags := 26, nameIndex := 24, descriptorIndex := 25, attributes := #[] }, { accessFlags := 26, nameIndex := 20, descriptorIndex := 21, attributes := #[] }, { accessFlags := 18, nameIndex := 11, descriptorIndex := 12, attributes := #[] }])
  fields := #[{ name := "DEFAULTS", type := (.object "com/example/fjordwire/fjordwire/model/ServiceCharacters"), accessFlags := 25, slot := 0, constantValue := 0 }, { name := "NAMES", type := (.array (.object "java/lang/String")), accessFlags := 26, slot := 1, constantValue := 0 }, { name := "SYNTAX_POSITIONS", type := (.array .int), accessFlags := 26, slot := 2, constantValue := 0 }, { name := "m_characters", type := (.array .char), accessFlags := 18, slot := 0, constantValue := 0 }]
  methods := #[k2m0, k2m1]
  instanceTypes := #[(.array .char)]
  staticTypes := #[(.object "com/example/fjordwire/fjordwire/model/ServiceCharacters"), (.array (.object "java/lang/String")), (.array .int)]
  resolved := Array.replicate 98 none
  statics := some 0 }

def pool3 : Array CpInfo := pool [(1, u "java/lang/Cloneable"), (0, .class_ 1), (0, u "java/lang/Object"), (0, .class_ 3)] 3

/-- java/lang/Cloneable -/
def k3 : Class := { plain "java/lang/Cloneable" (some 0) with
  accessFlags := 1537
  interfaces := #[]
  cf := some (fileOf pool3 2 #[] #[] 1537 4 #[] #[])
  fields := #[]
  methods := #[]
  instanceTypes := #[]
  staticTypes := #[]
  resolved := Array.replicate 8 none
  statics := none }

def pool4 : Array CpInfo := pool [(1, u "java/io/Serializable"), (0, .class_ 1), (0, u "java/lang/Object"), (0, .class_ 3)] 3

/-- java/io/Serializable -/
def k4 : Class := { plain "java/io/Serializable" (some 0) with
  accessFlags := 1537
  interfaces := #[]
  cf := some (fileOf pool4 2 #[] #[] 1537 4 #[] #[])
  fields := #[]
  methods := #[]
  instanceTypes := #[]
  staticTypes := #[]
  resolved := Array.replicate 8 none
  statics := none }

/-- the primitive byte -/
def k5 : Class := { plain "byte" none with kind := .primitive 'B', accessFlags := 0x411 }
/-- [B -/
def k6 : Class := { plain "[B" (some 0) with kind := .array 5 .byte, interfaces := #[3, 4], accessFlags := 1041 }

/-- the primitive char -/
def k7 : Class := { plain "char" none with kind := .primitive 'C', accessFlags := 0x411 }
/-- [C -/
def k8 : Class := { plain "[C" (some 0) with kind := .array 7 .char, interfaces := #[3, 4], accessFlags := 1041 }

/-- the primitive int -/
def k9 : Class := { plain "int" none with kind := .primitive 'I', accessFlags := 0x411 }
/-- [I -/
def k10 : Class := { plain "[I" (some 0) with kind := .array 9 .int, interfaces := #[3, 4], accessFlags := 1041 }

def heap : Heap := #[{ cls := 2, slots := #[.null, .null, .ref 1], vm := .statics 2 },
  { cls := 10, slots := #[.int 0, .int 1, .int 3, .int 5], vm := .none }]
def classes : Array Class := #[k0, k1, k2, k3, k4, k5, k6, k7, k8, k9, k10]
def interned : List (Array UInt16 × Addr) := []
def slotsUsed : Nat := 7
def theMethod : MethodId := ⟨1, 1⟩
def args0 : Array Value := #[.int 5, .int 7, .int 9, .int 11]
def aboutOver (below : List Frame) : State where
  vm := { classes := classes, interned := interned.toArray }
  heap := heap
  slotsUsed := slotsUsed
  threads := #[{ frames := .invoking theMethod args0 :: below }]
def below0 : List Frame := [.native { method := ⟨0, 0⟩, args := #[] }]
def about1 : State := aboutOver below0
def p0 : Program := .bare "" "" ""
def e0 : Env := launch0.env 0 0 0
theorem w_frames : about1.frames = Frame.invoking theMethod args0 :: below0 := rfl
set_option maxRecDepth 65536 in
theorem w_args : argsFit about1.vm theMethod args0 = true := by decide +kernel
set_option maxRecDepth 65536 in
theorem w_heap : heapFits about1 = true := by decide +kernel
set_option maxRecDepth 65536 in
theorem w_runnable : about1.curStatus? = some .runnable := by decide +kernel
set_option maxRecDepth 65536 in
theorem w_alone : about1.alone = true := by decide +kernel
set_option maxRecDepth 65536 in
theorem w_named : about1.methodNamed? x = some theMethod := by decide +kernel
set_option maxRecDepth 65536 in
theorem w_hears : about1.hears theMethod below0 = true := by decide +kernel
set_option maxRecDepth 65536 in
theorem w_ripe : about1.ripe theMethod args0 below0 = true := by decide +kernel
theorem w_running : about1.status = .running := rfl
set_option maxRecDepth 65536 in
theorem w_room : about1.hasRoom e0.platform room_1 = true :=
  launch0.hasRoom_least _ room_1 (by decide +kernel) (by decide +kernel) (by decide +kernel) (by decide +kernel) (by decide +kernel) (by decide +kernel)
theorem allAtoms_all (ts : List Jvm.Cond) (a : Array Jvm.Value) (st : Jvm.State) : (allAtoms ts).before a st = ts.all (fun c => c.before a st) := by
  induction ts with
  | nil => rfl
  | cons c t ih =>
    show (Jvm.Cond.and c (allAtoms t)).before a st = _
    rw [Jvm.Cond.before_and, ih, List.all_cons]
def words1 : List Jvm.Cond := Jvm.Cond.code x code maxLocals ret :: tables_1
/-- a 'code' word, met by the world's own term for the bytes: nothing is compared byte by byte -/
theorem code_word {y : MethodName} {bytes : ByteArray} {mx : Nat} {rt : Option FieldType} {a : Array Value} {s : State} {m : MethodId} {meth : Method} {c : Code} (h1 : s.methodNamed? y = some m) (h2 : s.vm.method? m = some meth) (h3 : meth.code = some c) (h4 : c.code = bytes)
    (h5 : (c.maxLocals == mx && c.exceptionTable.isEmpty && decide (c.maxStack ≤ mostOperands) && decide (meth.sig.returnType = rt) && !meth.locks && decide (parseMethodDescriptor y.desc = some meth.sig)) = true) : (Jvm.Cond.code y bytes mx rt).before a s = true := by
  simp only [Bool.and_eq_true, beq_iff_eq, Bool.not_eq_true', decide_eq_true_eq] at h5
  obtain ⟨⟨⟨⟨⟨g1, g2⟩, g3⟩, g4⟩, g5⟩, g6⟩ := h5
  simp [Cond.before, Cond.holds, Cond.value, h1, h2, h3, h4, g1, g2, g3, g4, g5, g6]
def isCode : Jvm.Cond → Bool
  | .code _ _ _ _ => true
  | _ => false
theorem all_split {L : List Jvm.Cond} {P : Jvm.Cond → Bool} (h1 : L.all (fun c => isCode c || P c) = true) (h2 : ∀ c ∈ L.filter isCode, P c = true) : L.all P = true := by
  refine List.all_eq_true.mpr fun c hc => ?_
  have h := List.all_eq_true.mp h1 c hc
  rcases Bool.eq_false_or_eq_true (isCode c) with hi | hi
  · exact h2 c (List.mem_filter.mpr ⟨hc, hi⟩)
  · simpa [hi] using h
set_option maxRecDepth 65536 in
theorem w_c0 : (Jvm.Cond.code x code maxLocals ret).before args0 about1 = true := code_word (m := ⟨1, 1⟩) (meth := k1m1) (c := k1c1) (by decide +kernel) rfl rfl rfl (by decide +kernel)
set_option maxRecDepth 65536 in
theorem w_c1 : (Jvm.Cond.code ({ cls := "com/example/fjordwire/fjordwire/model/ServiceCharacters", name := "<init>", desc := "(CCCCCC)V" } : Jvm.MethodName) prog_130_method_1_code (7 : Nat) (Option.none : Option Jvm.ClassFile.FieldType)).before args0 about1 = true := code_word (m := ⟨2, 0⟩) (meth := k2m0) (c := k2c0) (by decide +kernel) rfl rfl rfl (by decide +kernel)
set_option maxRecDepth 65536 in
theorem w_c2 : (Jvm.Cond.code ({ cls := "java/lang/Object", name := "<init>", desc := "()V" } : Jvm.MethodName) object_method_1_code (1 : Nat) (Option.none : Option Jvm.ClassFile.FieldType)).before args0 about1 = true := code_word (m := ⟨0, 0⟩) (meth := k0m0) (c := k0c0) (by decide +kernel) rfl rfl rfl (by decide +kernel)
set_option maxRecDepth 65536 in
theorem w_c3 : (Jvm.Cond.code ({ cls := "com/example/fjordwire/fjordwire/model/ServiceCharacters", name := "isSyntaxCharacter", desc := "(C)Z" } : Jvm.MethodName) prog_130_method_10_code (6 : Nat) (Option.some Jvm.ClassFile.FieldType.boolean)).before args0 about1 = true := code_word (m := ⟨2, 1⟩) (meth := k2m1) (c := k2c1) (by decide +kernel) rfl rfl rfl (by decide +kernel)
def codes1 : List Jvm.Cond := [Jvm.Cond.code x code maxLocals ret, Jvm.Cond.code ({ cls := "com/example/fjordwire/fjordwire/model/ServiceCharacters", name := "<init>", desc := "(CCCCCC)V" } : Jvm.MethodName) prog_130_method_1_code (7 : Nat) (Option.none : Option Jvm.ClassFile.FieldType), Jvm.Cond.code ({ cls := "java/lang/Object", name := "<init>", desc := "()V" } : Jvm.MethodName) object_method_1_code (1 : Nat) (Option.none : Option Jvm.ClassFile.FieldType), Jvm.Cond.code ({ cls := "com/example/fjordwire/fjordwire/model/ServiceCharacters", name := "isSyntaxCharacter", desc := "(C)Z" } : Jvm.MethodName) prog_130_method_10_code (6 : Nat) (Option.some Jvm.ClassFile.FieldType.boolean)]
set_option maxRecDepth 65536 in
theorem codes_eq : words1.filter isCode = codes1 := rfl
theorem w_codes : ∀ c ∈ words1.filter isCode, c.before args0 about1 = true := by
  rw [codes_eq]
  intro c hc
  simp only [codes1, List.mem_cons, List.not_mem_nil, or_false] at hc
  rcases hc with rfl | rfl | rfl | rfl
  · exact w_c0
  · exact w_c1
  · exact w_c2
  · exact w_c3
set_option maxRecDepth 65536 in
theorem w_t1 : words1.all (fun c => isCode c || c.before args0 about1) = true := by decide +kernel
theorem w_tables : (allAtoms (Jvm.Cond.code x code maxLocals ret :: tables_1)).before args0 about1 = true := by
  rw [allAtoms_all]
  show words1.all (fun c => c.before args0 about1) = true
  refine all_split ?_ w_codes
  rw [w_t1]
set_option maxRecDepth 65536 in
theorem w_case : (Jvm.Cond.and given_1 narrow_1).before args0 about1 = true := by decide +kernel
theorem w_applies : (headSpec (Jvm.Cond.code x code maxLocals ret :: tables_1) room_1).applies x e0.platform about1 = true :=
  (Spec.applies_iff w_frames).mpr ⟨w_running, w_runnable, w_alone, w_named, w_hears, w_ripe, w_room, w_tables⟩
theorem atStart : AtStart classFile x code maxLocals ret World_1 tables_1 room_1 Calls_1 rest_1 Pre_1 launch0 p0 e0 about1 theMethod args0 below0 :=
  ⟨lists_1, trivial, launch0.admits_env _ _ _, launch0.least_env, fairChoices_fair.cas, fairChoices_fair.clock, w_frames, w_args, w_heap, w_applies, trivial, trivial, w_case⟩
end start1
theorem witness_1 : WitnessClaimed_1 := ⟨start1.p0, start1.e0, start1.about1, start1.theMethod, start1.args0, start1.below0, start1.atStart⟩
end Jvm.Pilot.@@N@@
