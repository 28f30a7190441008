import JvmDerived
import JvmDerived.Pilot.@@N@@Statement
import JvmDerived.Pilot.@@N@@Code
set_option linter.unusedVariables false
set_option linter.unusedSimpArgs false
namespace Jvm.RoadKit
open Sem ClassFile Op Lib Jvm.Stand Jvm.Free Jvm.LawKit
section New
variable {p : Program} {l : Launch} {e : Env} {R : Room} {s : State} {m : MethodId} {args : Array Value} {below : List Frame} {meth : Method} {c : Code} {T : State} {locs : List Loc} {cells slots : Nat}
theorem retI (X : Stand p l e R s m args below meth c T locs cells slots) (hx : p.tables.exec = Jvm.exec) {pc : Nat} {Ls : Array Slot} {z : Int32} {rest : List Value} (hret : meth.sig.returnType = some .int) (hd : decode c.code pc = .ok (.ireturn, 1)) {fs : List Frame}
    (hl : ∀ (f : JFrame) (acts : List Action), f.method = m → f.locked = none → f.entered = [] → (doReturn e (T.setTop f) acts (some (.int z))).1 = T.setFrames fs) : Steps p.tables e below (T.setTop (mkF m pc Ls (.int z :: rest))) (T.setFrames fs) := by
  have hm' : T.vm.method? m = some meth := X.method'
  have hn : narrow .int (.int z) = .int z := rfl
  show Steps p.tables e below (T.setTop { method := m, pc := pc, locals := Ls, stack := _ :: rest, locked := none }) _
  jvm_step X.here [X.here.top, hx, hd, hm', hret, hn]
  first | (intro acts; rw [hl _ acts rfl rfl rfl]) | rw [hl _ _ rfl rfl rfl]
  exact Steps.refl _
end New
end Jvm.RoadKit
namespace Jvm.Pilot.@@N@@
open Jvm Jvm.ClassFile Sem Op Lib Jvm.Free Jvm.Stand Jvm.LawKit Jvm.RoadKit Bundle Jvm.Pilot.@@N@@.Jvm.D
def own_n (a : Int32) : Int32 := (1 : Int32) + (a &&& (2147483647 : Int32)) % (2147483646 : Int32)
def own_kk (b : Int32) : Int32 := (1 : Int32) + (b &&& (2147483647 : Int32)) % (2147483647 : Int32)
def own_pairs (x : Int64) : Int64 := x * (x - (1 : Int64)) / (2 : Int64)
def own_all (n : Int32) : Int64 := n.toInt64 * (n - (1 : Int32)).toInt64 / (2 : Int64)
def own_quo (n k : Int32) : Int64 := (n / k).toInt64
def own_rm (n k : Int32) : Int64 := (n % k).toInt64
def own_me (n k : Int32) : Int64 := own_pairs n.toInt64 - own_rm n k * own_pairs (own_quo n k + (1 : Int64)) - (k.toInt64 - own_rm n k) * own_pairs (own_quo n k)
/-! plain numbers -/
theorem own_z0 (N K Q R : Int) (hK : 1 ≤ K) (h : K * Q + R = N) (hR : 0 ≤ R) (hQ : 0 ≤ Q) : Q = 0 ∨ (1 ≤ Q ∧ K ≤ N) := by
  by_cases q : Q = 0
  · exact Or.inl q
  · have h1 : 1 ≤ Q := by omega
    have h2 : K * 1 ≤ K * Q := Int.mul_le_mul_of_nonneg_left h1 (by omega)
    exact Or.inr ⟨h1, by omega⟩
theorem own_z1 (N K Q R : Int) (hK : 1 ≤ K) (h : K * Q + R = N) (hR : 0 ≤ R) (hQ : 0 ≤ Q) : 0 ≤ Q * (N + R - K) := by
  rcases own_z0 N K Q R hK h hR hQ with q | ⟨q1, q2⟩
  · rw [q, Int.zero_mul]; omega
  · exact Int.mul_nonneg hQ (by omega)
theorem own_zq (N K Q R : Int) (hK : 1 ≤ K) (h : K * Q + R = N) (hR : 0 ≤ R) (hQ : 0 ≤ Q) : Q ≤ N := by
  have h2 : 1 * Q ≤ K * Q := Int.mul_le_mul_of_nonneg_right hK hQ
  omega
theorem own_z2 (N K Q R : Int) (hK : 1 ≤ K) (hN : 1 ≤ N) (h : K * Q + R = N) (hR : 0 ≤ R) (hRK : R < K) (hQ : 0 ≤ Q) : Q * (N + R - K) ≤ N * (N - 1) := by
  have hq := own_zq N K Q R hK h hR hQ
  have h0 : 0 ≤ N * (N - 1) := Int.mul_nonneg (by omega) (by omega)
  rcases own_z0 N K Q R hK h hR hQ with q | ⟨q1, q2⟩
  · rw [q, Int.zero_mul]; exact h0
  · exact Int.mul_le_mul hq (by omega) (by omega) (by omega)
theorem own_z3 (N K Q R : Int) (hK : 1 ≤ K) (h : K * Q + R = N) (hR : 0 ≤ R) (hQ : 0 ≤ Q) (hNK : N ≤ K) : Q * (N + R - K) = 0 := by
  rcases own_z0 N K Q R hK h hR hQ with q | ⟨q1, q2⟩
  · rw [q, Int.zero_mul]
  · have h2 : K * 1 ≤ K * Q := Int.mul_le_mul_of_nonneg_left q1 (by omega)
    have h3 : N + R - K = 0 := by omega
    rw [h3, Int.mul_zero]
theorem own_z4 (N K Q R : Int) (h : K * Q + R = N) : R * ((Q + 1) * Q) + (K - R) * (Q * (Q - 1)) = Q * (N + R - K) := by
  subst h
  grind
theorem own_z5 (N K Q R : Int) (hK : 1 ≤ K) (h : K * Q + R = N) (hR : 0 ≤ R) (hRK : R < K) : (N + 1) / K * (N + 1 + (N + 1) % K - K) = Q * (N + R - K) + 2 * Q := by
  have e : N + 1 = (R + 1) + K * Q := by omega
  by_cases q : R + 1 < K
  · have e1 : (N + 1) / K = Q := by rw [e, Int.add_mul_ediv_left _ _ (by omega), Int.ediv_eq_zero_of_lt (by omega) q, Int.zero_add]
    have e2 : (N + 1) % K = R + 1 := by rw [e, Int.add_mul_emod_self_left]; exact Int.emod_eq_of_lt (by omega) q
    rw [e1, e2]
    grind
  · have hRK' : R + 1 = K := by omega
    have e1 : (N + 1) / K = Q + 1 := by rw [e, Int.add_mul_ediv_left _ _ (by omega), hRK', Int.ediv_self (by omega), Int.add_comm]
    have e2 : (N + 1) % K = 0 := by rw [e, Int.add_mul_emod_self_left, hRK', Int.emod_self]
    rw [e1, e2]
    have e3 : R = K - 1 := by omega
    subst e3
    subst h
    grind
theorem own_even (x : Int) : x * (x - 1) % 2 = 0 := by
  rcases Int.emod_two_eq x with h | h
  · rw [Int.mul_emod, h]; simp
  · rw [Int.mul_emod, show (x - 1) % 2 = 0 by omega]; simp
/-! longs -/
theorem own_mul64 {x y : Int64} {A : Int} (h : x.toInt * y.toInt = A) (h1 : -9223372036854775808 ≤ A) (h2 : A < 9223372036854775808) : (x * y).toInt = A := by
  have q := c_lmul x y
  rw [h] at q
  have b1 := Int64.le_toInt (x * y)
  have b2 := Int64.toInt_lt (x * y)
  omega
theorem own_sub64 {x y : Int64} (h1 : -9223372036854775808 ≤ x.toInt - y.toInt) (h2 : x.toInt - y.toInt < 9223372036854775808) : (x - y).toInt = x.toInt - y.toInt := by
  have q := c_lsub x y
  have b1 := Int64.le_toInt (x - y)
  have b2 := Int64.toInt_lt (x - y)
  omega
theorem own_add64 {x y : Int64} (h1 : -9223372036854775808 ≤ x.toInt + y.toInt) (h2 : x.toInt + y.toInt < 9223372036854775808) : (x + y).toInt = x.toInt + y.toInt := by
  have q := c_ladd x y
  have b1 := Int64.le_toInt (x + y)
  have b2 := Int64.toInt_lt (x + y)
  omega
theorem own_sq {N : Int} (h0 : 0 ≤ N) (h1 : N ≤ 2147483648) : 0 ≤ N * (N - 1) ∧ N * (N - 1) ≤ 4611686018427387904 := by
  by_cases q : N = 0
  · subst q; decide
  · have a := Int.mul_nonneg h0 (show 0 ≤ N - 1 by omega)
    have b : N * (N - 1) ≤ 2147483648 * 2147483648 := Int.mul_le_mul h1 (by omega) (by omega) (by omega)
    omega
theorem own_pairs_spec (x : Int64) (h0 : 0 ≤ x.toInt) (h1 : x.toInt ≤ 2147483648) : 2 * (own_pairs x).toInt = x.toInt * (x.toInt - 1) := by
  have e0 : (1 : Int64).toInt = 1 := by decide
  have e1 : (x - (1 : Int64)).toInt = x.toInt - 1 := by rw [own_sub64 (by omega) (by omega), e0]
  obtain ⟨b1, b2⟩ := own_sq h0 h1
  have e2 : (x * (x - (1 : Int64))).toInt = x.toInt * (x.toInt - 1) := own_mul64 (by rw [e1]) (by omega) (by omega)
  have e3 : (own_pairs x).toInt = x.toInt * (x.toInt - 1) / 2 := by
    have q := (c_ldiv (x * (x - (1 : Int64))) 2 2 (by decide) (by decide)).1 (by omega)
    rw [e2] at q
    exact q
  have e4 := own_even x.toInt
  omega
theorem own_all_spec (n : Int32) (h0 : 1 ≤ n.toInt) : 2 * (own_all n).toInt = n.toInt * (n.toInt - 1) := by
  have hn := Int32.toInt_lt n
  have e0 : (1 : Int32).toInt = 1 := by decide
  have e1 : (n - (1 : Int32)).toInt = n.toInt - 1 := by
    have q := c_isub n 1
    rw [e0] at q
    have b1 := Int32.le_toInt (n - (1 : Int32))
    have b2 := Int32.toInt_lt (n - (1 : Int32))
    omega
  obtain ⟨b1, b2⟩ := own_sq (N := n.toInt) (by omega) (by omega)
  have e2 : (n.toInt64 * (n - (1 : Int32)).toInt64).toInt = n.toInt * (n.toInt - 1) := own_mul64 (by rw [c_i2l, c_i2l, e1]) (by omega) (by omega)
  have e3 : (own_all n).toInt = n.toInt * (n.toInt - 1) / 2 := by
    have q := (c_ldiv (n.toInt64 * (n - (1 : Int32)).toInt64) 2 2 (by decide) (by decide)).1 (by omega)
    rw [e2] at q
    exact q
  have e4 := own_even n.toInt
  omega
theorem own_quo_v (n k : Int32) (hn : 0 ≤ n.toInt) (hk : 1 ≤ k.toInt) : (own_quo n k).toInt = n.toInt / k.toInt := by
  have h1 : k ≠ -1 := fun q => by rw [q] at hk; exact absurd hk (by decide)
  exact (c_i2l _).trans ((c_idiv n k _ rfl h1).1 hn)
theorem own_rm_v (n k : Int32) (hn : 0 ≤ n.toInt) (hk : 1 ≤ k.toInt) : (own_rm n k).toInt = n.toInt % k.toInt :=
  (c_i2l _).trans ((c_irem n k _ rfl).1 hn)
/-- what maxEdges computes, doubled -/
theorem own_me_spec (n k : Int32) (hn : 1 ≤ n.toInt) (hk : 1 ≤ k.toInt) : 2 * (own_me n k).toInt = n.toInt * (n.toInt - 1) - n.toInt / k.toInt * (n.toInt + n.toInt % k.toInt - k.toInt) := by
  have hn' := Int32.toInt_lt n
  have hk' := Int32.toInt_lt k
  have vq := own_quo_v n k (by omega) hk
  have vr := own_rm_v n k (by omega) hk
  have hdm : k.toInt * (n.toInt / k.toInt) + n.toInt % k.toInt = n.toInt := Int.mul_ediv_add_emod _ _
  have hR0 : 0 ≤ n.toInt % k.toInt := Int.emod_nonneg _ (by omega)
  have hR1 : n.toInt % k.toInt < k.toInt := Int.emod_lt_of_pos _ (by omega)
  have hQ0 : 0 ≤ n.toInt / k.toInt := Int.ediv_nonneg (by omega) (by omega)
  have vk : k.toInt64.toInt = k.toInt := c_i2l k
  have vn : n.toInt64.toInt = n.toInt := c_i2l n
  have p1 := own_pairs_spec n.toInt64 (by omega) (by omega)
  generalize n.toInt / k.toInt = Q at *
  generalize n.toInt % k.toInt = Rr at *
  have hqn := own_zq _ _ _ _ hk hdm hR0 hQ0
  have e0 : (1 : Int64).toInt = 1 := by decide
  have e1 : (own_quo n k + (1 : Int64)).toInt = Q + 1 := by rw [own_add64 (by omega) (by omega), e0, vq]
  have p2 := own_pairs_spec (own_quo n k + (1 : Int64)) (by omega) (by omega)
  have p3 := own_pairs_spec (own_quo n k) (by omega) (by omega)
  rw [e1, show Q + 1 - 1 = Q by omega] at p2
  rw [vq] at p3
  rw [vn] at p1
  obtain ⟨s1, s2⟩ := own_sq (N := n.toInt) (by omega) (by omega)
  have z4 := own_z4 _ _ _ _ hdm
  have z1 := own_z1 _ _ _ _ hk hdm hR0 hQ0
  have z2 := own_z2 _ _ _ _ hk hn hdm hR0 hR1 hQ0
  have t1 : 0 ≤ Rr * ((Q + 1) * Q) := Int.mul_nonneg hR0 (Int.mul_nonneg (by omega) hQ0)
  have q1 : 0 ≤ Q * (Q - 1) := by
    by_cases q : Q = 0
    · rw [q]; decide
    · exact Int.mul_nonneg hQ0 (by omega)
  have t2 : 0 ≤ (k.toInt - Rr) * (Q * (Q - 1)) := Int.mul_nonneg (by omega) q1
  have m2 : 2 * (Rr * (own_pairs (own_quo n k + (1 : Int64))).toInt) = Rr * ((Q + 1) * Q) := by rw [← p2, ← Int.mul_assoc, ← Int.mul_assoc, Int.mul_comm 2 Rr]
  have m3 : 2 * ((k.toInt - Rr) * (own_pairs (own_quo n k)).toInt) = (k.toInt - Rr) * (Q * (Q - 1)) := by rw [← p3, ← Int.mul_assoc, ← Int.mul_assoc, Int.mul_comm 2 (k.toInt - Rr)]
  have f1 : (k.toInt64 - own_rm n k).toInt = k.toInt - Rr := by rw [own_sub64 (by omega) (by omega), vk, vr]
  have f2 : (own_rm n k * own_pairs (own_quo n k + (1 : Int64))).toInt = Rr * (own_pairs (own_quo n k + (1 : Int64))).toInt := own_mul64 (by rw [vr]) (by omega) (by omega)
  have f3 : ((k.toInt64 - own_rm n k) * own_pairs (own_quo n k)).toInt = (k.toInt - Rr) * (own_pairs (own_quo n k)).toInt := own_mul64 (by rw [f1]) (by omega) (by omega)
  have f4 : (own_pairs n.toInt64 - own_rm n k * own_pairs (own_quo n k + (1 : Int64))).toInt = (own_pairs n.toInt64).toInt - Rr * (own_pairs (own_quo n k + (1 : Int64))).toInt := by rw [own_sub64 (by omega) (by omega), f2]
  have f5 : (own_me n k).toInt = (own_pairs n.toInt64).toInt - Rr * (own_pairs (own_quo n k + (1 : Int64))).toInt - (k.toInt - Rr) * (own_pairs (own_quo n k)).toInt := by
    show (own_pairs n.toInt64 - own_rm n k * own_pairs (own_quo n k + (1 : Int64)) - (k.toInt64 - own_rm n k) * own_pairs (own_quo n k)).toInt = _
    rw [own_sub64 (by omega) (by omega), f4, f3]
  omega
theorem own_nb (a : Int32) : 1 ≤ (own_n a).toInt ∧ (own_n a).toInt ≤ 2147483646 := by
  have h1 : (a &&& (2147483647 : Int32)).toInt = a.toInt % (2 ^ 31 : Nat) := c_mask a 2147483647 31 (by decide) (by decide)
  have h2 := (c_irem (a &&& (2147483647 : Int32)) 2147483646 2147483646 (by decide)).1 (by omega)
  have h3 := c_iadd 1 ((a &&& (2147483647 : Int32)) % (2147483646 : Int32))
  have e0 : (1 : Int32).toInt = 1 := by decide
  rw [e0] at h3
  have b1 := Int32.le_toInt (own_n a)
  have b2 := Int32.toInt_lt (own_n a)
  unfold own_n at *
  omega
theorem own_kb (b : Int32) : 1 ≤ (own_kk b).toInt := by
  have h1 : (b &&& (2147483647 : Int32)).toInt = b.toInt % (2 ^ 31 : Nat) := c_mask b 2147483647 31 (by decide) (by decide)
  have h2 := (c_irem (b &&& (2147483647 : Int32)) 2147483647 2147483647 (by decide)).1 (by omega)
  have h3 := c_iadd 1 ((b &&& (2147483647 : Int32)) % (2147483647 : Int32))
  have e0 : (1 : Int32).toInt = 1 := by decide
  rw [e0] at h3
  have b1 := Int32.le_toInt (own_kk b)
  have b2 := Int32.toInt_lt (own_kk b)
  unfold own_kk at *
  omega
theorem own_nz (b : Int32) : ¬ (own_kk b = (0 : Int32)) := fun q => by
  have h := own_kb b
  rw [q] at h
  exact absurd h (by decide)
theorem own_range (n k : Int32) (hn : 1 ≤ n.toInt) (hk : 1 ≤ k.toInt) : 0 ≤ (own_me n k).toInt ∧ (own_me n k).toInt ≤ (own_all n).toInt ∧ (n.toInt ≤ k.toInt → (own_me n k).toInt = (own_all n).toInt) := by
  have h1 := own_me_spec n k hn hk
  have h2 := own_all_spec n hn
  have hdm : k.toInt * (n.toInt / k.toInt) + n.toInt % k.toInt = n.toInt := Int.mul_ediv_add_emod _ _
  have hR0 : 0 ≤ n.toInt % k.toInt := Int.emod_nonneg _ (by omega)
  have hR1 : n.toInt % k.toInt < k.toInt := Int.emod_lt_of_pos _ (by omega)
  have hQ0 : 0 ≤ n.toInt / k.toInt := Int.ediv_nonneg (by omega) (by omega)
  have z1 := own_z1 _ _ _ _ hk hdm hR0 hQ0
  have z2 := own_z2 _ _ _ _ hk hn hdm hR0 hR1 hQ0
  refine ⟨by omega, by omega, fun q => ?_⟩
  have z3 := own_z3 _ _ _ _ hk hdm hR0 hQ0 q
  omega
theorem own_c1 (a b : Int32) : ¬ (lcmpW (own_me (own_n a) (own_kk b)) (0 : Int64) < (0 : Int32)) := fun q => by
  have h := (lw_lt _ _).mp q
  rw [Int64.lt_iff_toInt_lt, show (0 : Int64).toInt = 0 from by decide] at h
  have r := (own_range (own_n a) (own_kk b) (own_nb a).1 (own_kb b)).1
  omega
theorem own_c2 (a b : Int32) : ¬ ((0 : Int32) < lcmpW (own_me (own_n a) (own_kk b)) (own_all (own_n a))) := fun q => by
  have h := (lw_gt _ _).mp q
  rw [Int64.lt_iff_toInt_lt] at h
  have r := (own_range (own_n a) (own_kk b) (own_nb a).1 (own_kb b)).2.1
  omega
theorem own_c3 (a b : Int32) (hc : ¬ (own_kk b < own_n a)) : lcmpW (own_me (own_n a) (own_kk b)) (own_all (own_n a)) = (0 : Int32) := by
  rw [Int32.lt_iff_toInt_lt] at hc
  exact (lw_eq _ _).mpr (Int64.toInt_inj.mp ((own_range (own_n a) (own_kk b) (own_nb a).1 (own_kb b)).2.2 (by omega)))
theorem own_c4 (a b : Int32) : lcmpW (own_me (own_n a + (1 : Int32)) (own_kk b)) (own_me (own_n a) (own_kk b) + ((own_n a).toInt64 - (own_n a / own_kk b).toInt64)) = (0 : Int32) := by
  obtain ⟨n1, n2⟩ := own_nb a
  have hk := own_kb b
  generalize own_n a = n at *
  generalize own_kk b = k at *
  refine (lw_eq _ _).mpr (Int64.toInt_inj.mp ?_)
  have e0 : (1 : Int32).toInt = 1 := by decide
  have en : (n + (1 : Int32)).toInt = n.toInt + 1 := by
    have q := c_iadd n 1
    rw [e0] at q
    have b1 := Int32.le_toInt (n + (1 : Int32))
    have b2 := Int32.toInt_lt (n + (1 : Int32))
    omega
  have h1 := own_me_spec n k n1 hk
  have h2 := own_me_spec (n + (1 : Int32)) k (by omega) hk
  rw [en] at h2
  have hdm : k.toInt * (n.toInt / k.toInt) + n.toInt % k.toInt = n.toInt := Int.mul_ediv_add_emod _ _
  have hR0 : 0 ≤ n.toInt % k.toInt := Int.emod_nonneg _ (by omega)
  have hR1 : n.toInt % k.toInt < k.toInt := Int.emod_lt_of_pos _ (by omega)
  have hQ0 : 0 ≤ n.toInt / k.toInt := Int.ediv_nonneg (by omega) (by omega)
  have hqn := own_zq _ _ _ _ hk hdm hR0 hQ0
  have z5 := own_z5 _ _ _ _ hk hdm hR0 hR1
  obtain ⟨r1, r2, -⟩ := own_range n k n1 hk
  have hA := own_all_spec n n1
  obtain ⟨s1, s2⟩ := own_sq (N := n.toInt) (by omega) (by omega)
  have vq : ((n / k).toInt64).toInt = n.toInt / k.toInt := own_quo_v n k (by omega) hk
  have vn : n.toInt64.toInt = n.toInt := c_i2l n
  have v1 : (n.toInt64 - (n / k).toInt64).toInt = n.toInt - n.toInt / k.toInt := by rw [own_sub64 (by omega) (by omega), vn, vq]
  rw [own_add64 (by omega) (by omega), v1]
  have s3 : (n.toInt + 1) * (n.toInt + 1 - 1) = n.toInt * (n.toInt - 1) + 2 * n.toInt := by grind
  omega
theorem d2_0 : decode prog_68_method_8_code 0 = .ok (.lload_n 0, 1) := by decide +kernel
theorem d2_1 : decode prog_68_method_8_code 1 = .ok (.lload_n 0, 1) := by decide +kernel
theorem d2_2 : decode prog_68_method_8_code 2 = .ok (.lconst 1, 1) := by decide +kernel
theorem d2_3 : decode prog_68_method_8_code 3 = .ok (.lsub, 1) := by decide +kernel
theorem d2_4 : decode prog_68_method_8_code 4 = .ok (.lmul, 1) := by decide +kernel
theorem d2_5 : decode prog_68_method_8_code 5 = .ok (.ldc2_w 140, 3) := by decide +kernel
theorem d2_8 : decode prog_68_method_8_code 8 = .ok (.ldiv, 1) := by decide +kernel
theorem d2_9 : decode prog_68_method_8_code 9 = .ok (.lreturn, 1) := by decide +kernel
theorem pn_com_example_entente_entente_io_Generators : plainName "com/example/entente/entente/io/Generators" = true := by first | (simp [plainName, overriddenIn]; done) | decide +kernel
theorem ef_rm2 (m : MethodId) (x0 : Int64) : entryFrame m #[(.long x0)] 2 = mkF m 0 #[.val (.long x0), .second] [] := by first | (simp [entryFrame, mkF, argsToLocals, Value.category]; done) | rfl
def Qrm2 (Z : State) (q1 : Int64)  (h0 : Heap) (n0 : Nat) (v : Option Value) (h : Heap) (L : List Loc) : Prop := v = some (.long (own_pairs q1)) ∧ Fr n0 L ∧ h = h0
set_option maxRecDepth 65536 in
set_option maxHeartbeats 40000000 in
theorem rm2 (l : Launch) (Z : State) (a0 : Array Value) (hw : ∀ d ∈ tables_1, d.before a0 Z = true) (ws : List Jvm.Cond) (q1 : Int64)  (h0 : Heap) (n0 : Nat) (Z0 : n0 ≤ h0.size)  :
    MetFree l (⟨"com/example/entente/entente/io/Generators", "pairs", "(J)J"⟩ : MethodName) (head1 (Jvm.Cond.code (⟨"com/example/entente/entente/io/Generators", "pairs", "(J)J"⟩ : MethodName) prog_68_method_8_code 2 (some .long) :: ws) ({ frames := 0, cells := 0, slots := 0, locals := 0 } : Room)) (fun a U => a = #[(.long q1)] ∧ Z.Warmed39 U.vm ∧ U.heap = h0) (fun _ _ _ _ _ => True) (fun _ U o U' => ∃ v L, o = .returned v ∧ Qrm2 Z q1  h0 n0 v U'.heap L ∧ FrameEnd U o U' L ({ frames := 0, cells := 0, slots := 0, locals := 0 } : Room).cells ({ frames := 0, cells := 0, slots := 0, locals := 0 } : Room).slots) := by
  refine MetFree.of_bodySF (plainFor_of_name pn_com_example_entente_entente_io_Generators) hisR ?_
  intro p e s m args below meth c s₁ Bd hml0 hP hK
  obtain ⟨rfl, hZ, hh⟩ := hP
  have hx := Bd.exec
  have hby := Bd.bytes
  have hml : c.maxLocals = 2 := hml0
  have hown : s.vm.findClass "com/example/entente/entente/io/Generators" = some m.cls := findClass_of_methodNamed Bd.named
  have hnm := (name_of_methodNamed Bd.named Bd.method).1
  have X0 : Stand p l e ({ frames := 0, cells := 0, slots := 0, locals := 0 } : Room) s m #[(.long q1)] below meth c s₁ [] 0 0 := Stand.of_body Bd
  have e0 : s₁.heap = h0 := by rw [← hh, Bd.state]; rfl
  have N0 := Fr.nil n0
  have pre0 : ∀ t, Steps p.tables e below (s₁.setTop (mkF m 0 #[.val (.long q1), .second] [])) t → Steps p.tables e below (s₁.setTop (entryFrame m #[(.long q1)] 2)) t := fun t k => castTop (ef_rm2 m q1) k
  obtain ⟨fs, hr, hrun, hended, hW, hsame⟩ := X0.leave (v := some (.long ((q1 * (q1 - (1 : Int64))) / (2 : Int64)))) (fun h => by rw [Bd.returns] at h; cases h)
  refine ⟨_, _, pre0 _ ?_, hrun, hended, _, _, rfl, ?_, ⟨_, rfl⟩, hW, hsame.mono (by decide) (by decide)⟩
  · show Steps p.tables e below (s₁.setTop (mkF m 0 #[.val (.long q1), .second] [])) _
    refine XS.lloadN X0.here hx rfl (hb hby d2_0) rfl ?_
    show Steps p.tables e below (s₁.setTop (mkF m 1 #[.val (.long q1), .second] [(.long q1)])) _
    refine XS.lloadN X0.here hx rfl (hb hby d2_1) rfl ?_
    show Steps p.tables e below (s₁.setTop (mkF m 2 #[.val (.long q1), .second] [(.long q1), (.long q1)])) _
    refine XS.lconst X0.here hx rfl (hb hby d2_2) ?_
    show Steps p.tables e below (s₁.setTop (mkF m 3 #[.val (.long q1), .second] [(.long (1 : Int64)), (.long q1), (.long q1)])) _
    refine XS.lsub X0.here hx rfl (hb hby d2_3) rfl ?_
    show Steps p.tables e below (s₁.setTop (mkF m 4 #[.val (.long q1), .second] [(.long (q1 - (1 : Int64))), (.long q1)])) _
    refine XS.lmul X0.here hx rfl (hb hby d2_4) rfl ?_
    show Steps p.tables e below (s₁.setTop (mkF m 5 #[.val (.long q1), .second] [(.long (q1 * (q1 - (1 : Int64))))])) _
    refine X0.ldc2Long hx hown (mvT hZ (hw _ (List.mem_of_getElem? (i := 9) rfl))) (g := (mkF m 5 #[.val (.long q1), .second] [(.long (q1 * (q1 - (1 : Int64))))])) rfl (hb hby d2_5) _ ?_
    show Steps p.tables e below (s₁.setTop (mkF m 8 #[.val (.long q1), .second] [(.long (2 : Int64)), (.long (q1 * (q1 - (1 : Int64))))])) _
    refine XS.ldiv X0.here hx rfl (hb hby d2_8) rfl (by decide) ?_
    show Steps p.tables e below (s₁.setTop (mkF m 9 #[.val (.long q1), .second] [(.long ((q1 * (q1 - (1 : Int64))) / (2 : Int64)))])) _
    jvm_step X0.here [X0.here.top, hx, (hb hby d2_9), X0.method', Bd.returns, narrow]
    first | (intro acts; rw [hr _ acts rfl rfl rfl]) | rw [hr _ _ rfl rfl rfl]
    exact Steps.refl _
  · show Qrm2 Z q1  h0 n0 _ s₁.heap _
    rw [e0]
    exact ⟨rfl, N0, rfl⟩
theorem d3_0 : decode method_2_code 0 = .ok (.iload_n 0, 1) := by decide +kernel
theorem d3_1 : decode method_2_code 1 = .ok (.i2l, 1) := by decide +kernel
theorem d3_2 : decode method_2_code 2 = .ok (.iload_n 0, 1) := by decide +kernel
theorem d3_3 : decode method_2_code 3 = .ok (.iconst 1, 1) := by decide +kernel
theorem d3_4 : decode method_2_code 4 = .ok (.isub, 1) := by decide +kernel
theorem d3_5 : decode method_2_code 5 = .ok (.i2l, 1) := by decide +kernel
theorem d3_6 : decode method_2_code 6 = .ok (.lmul, 1) := by decide +kernel
theorem d3_7 : decode method_2_code 7 = .ok (.ldc2_w 7, 3) := by decide +kernel
theorem d3_10 : decode method_2_code 10 = .ok (.ldiv, 1) := by decide +kernel
theorem d3_11 : decode method_2_code 11 = .ok (.lreturn, 1) := by decide +kernel
theorem pn_com_example_entente_entente_io_GeneratorsMaxEdgesPinLaw : plainName "com/example/entente/entente/io/GeneratorsMaxEdgesPinLaw" = true := by first | (simp [plainName, overriddenIn]; done) | decide +kernel
theorem ef_rm3 (m : MethodId) (x0 : Int32) : entryFrame m #[(.int x0)] 1 = mkF m 0 #[.val (.int x0)] [] := by first | (simp [entryFrame, mkF, argsToLocals, Value.category]; done) | rfl
def Qrm3 (Z : State) (p1 : Int32)  (h0 : Heap) (n0 : Nat) (v : Option Value) (h : Heap) (L : List Loc) : Prop := v = some (.long (own_all p1)) ∧ Fr n0 L ∧ h = h0
set_option maxRecDepth 65536 in
set_option maxHeartbeats 40000000 in
theorem rm3 (l : Launch) (Z : State) (a0 : Array Value) (hw : ∀ d ∈ tables_1, d.before a0 Z = true) (ws : List Jvm.Cond) (p1 : Int32)  (h0 : Heap) (n0 : Nat) (Z0 : n0 ≤ h0.size)  :
    MetFree l (⟨"com/example/entente/entente/io/GeneratorsMaxEdgesPinLaw", "allPairs", "(I)J"⟩ : MethodName) (head1 (Jvm.Cond.code (⟨"com/example/entente/entente/io/GeneratorsMaxEdgesPinLaw", "allPairs", "(I)J"⟩ : MethodName) method_2_code 1 (some .long) :: ws) ({ frames := 0, cells := 0, slots := 0, locals := 0 } : Room)) (fun a U => a = #[(.int p1)] ∧ Z.Warmed39 U.vm ∧ U.heap = h0) (fun _ _ _ _ _ => True) (fun _ U o U' => ∃ v L, o = .returned v ∧ Qrm3 Z p1  h0 n0 v U'.heap L ∧ FrameEnd U o U' L ({ frames := 0, cells := 0, slots := 0, locals := 0 } : Room).cells ({ frames := 0, cells := 0, slots := 0, locals := 0 } : Room).slots) := by
  refine MetFree.of_bodySF (plainFor_of_name pn_com_example_entente_entente_io_GeneratorsMaxEdgesPinLaw) hisR ?_
  intro p e s m args below meth c s₁ Bd hml0 hP hK
  obtain ⟨rfl, hZ, hh⟩ := hP
  have hx := Bd.exec
  have hby := Bd.bytes
  have hml : c.maxLocals = 1 := hml0
  have hown : s.vm.findClass "com/example/entente/entente/io/GeneratorsMaxEdgesPinLaw" = some m.cls := findClass_of_methodNamed Bd.named
  have hnm := (name_of_methodNamed Bd.named Bd.method).1
  have X0 : Stand p l e ({ frames := 0, cells := 0, slots := 0, locals := 0 } : Room) s m #[(.int p1)] below meth c s₁ [] 0 0 := Stand.of_body Bd
  have e0 : s₁.heap = h0 := by rw [← hh, Bd.state]; rfl
  have N0 := Fr.nil n0
  have pre0 : ∀ t, Steps p.tables e below (s₁.setTop (mkF m 0 #[.val (.int p1)] [])) t → Steps p.tables e below (s₁.setTop (entryFrame m #[(.int p1)] 1)) t := fun t k => castTop (ef_rm3 m p1) k
  obtain ⟨fs, hr, hrun, hended, hW, hsame⟩ := X0.leave (v := some (.long (((p1.toInt64) * ((p1 - (1 : Int32)).toInt64)) / (2 : Int64)))) (fun h => by rw [Bd.returns] at h; cases h)
  refine ⟨_, _, pre0 _ ?_, hrun, hended, _, _, rfl, ?_, ⟨_, rfl⟩, hW, hsame.mono (by decide) (by decide)⟩
  · show Steps p.tables e below (s₁.setTop (mkF m 0 #[.val (.int p1)] [])) _
    refine XS.iloadN X0.here hx rfl (hb hby d3_0) rfl ?_
    show Steps p.tables e below (s₁.setTop (mkF m 1 #[.val (.int p1)] [(.int p1)])) _
    refine XS.i2l X0.here hx rfl (hb hby d3_1) rfl ?_
    show Steps p.tables e below (s₁.setTop (mkF m 2 #[.val (.int p1)] [(.long (p1.toInt64))])) _
    refine XS.iloadN X0.here hx rfl (hb hby d3_2) rfl ?_
    show Steps p.tables e below (s₁.setTop (mkF m 3 #[.val (.int p1)] [(.int p1), (.long (p1.toInt64))])) _
    refine XS.iconst X0.here hx rfl (hb hby d3_3) ?_
    show Steps p.tables e below (s₁.setTop (mkF m 4 #[.val (.int p1)] [(.int (1 : Int32)), (.int p1), (.long (p1.toInt64))])) _
    refine XS.isub X0.here hx rfl (hb hby d3_4) rfl ?_
    show Steps p.tables e below (s₁.setTop (mkF m 5 #[.val (.int p1)] [(.int (p1 - (1 : Int32))), (.long (p1.toInt64))])) _
    refine XS.i2l X0.here hx rfl (hb hby d3_5) rfl ?_
    show Steps p.tables e below (s₁.setTop (mkF m 6 #[.val (.int p1)] [(.long ((p1 - (1 : Int32)).toInt64)), (.long (p1.toInt64))])) _
    refine XS.lmul X0.here hx rfl (hb hby d3_6) rfl ?_
    show Steps p.tables e below (s₁.setTop (mkF m 7 #[.val (.int p1)] [(.long ((p1.toInt64) * ((p1 - (1 : Int32)).toInt64)))])) _
    refine X0.ldc2Long hx hown (mvT hZ (hw _ (List.mem_of_getElem? (i := 14) rfl))) (g := (mkF m 7 #[.val (.int p1)] [(.long ((p1.toInt64) * ((p1 - (1 : Int32)).toInt64)))])) rfl (hb hby d3_7) _ ?_
    show Steps p.tables e below (s₁.setTop (mkF m 10 #[.val (.int p1)] [(.long (2 : Int64)), (.long ((p1.toInt64) * ((p1 - (1 : Int32)).toInt64)))])) _
    refine XS.ldiv X0.here hx rfl (hb hby d3_10) rfl (by decide) ?_
    show Steps p.tables e below (s₁.setTop (mkF m 11 #[.val (.int p1)] [(.long (((p1.toInt64) * ((p1 - (1 : Int32)).toInt64)) / (2 : Int64)))])) _
    jvm_step X0.here [X0.here.top, hx, (hb hby d3_11), X0.method', Bd.returns, narrow]
    first | (intro acts; rw [hr _ acts rfl rfl rfl]) | rw [hr _ _ rfl rfl rfl]
    exact Steps.refl _
  · show Qrm3 Z p1  h0 n0 _ s₁.heap _
    rw [e0]
    exact ⟨rfl, N0, rfl⟩
theorem d1_0 : decode prog_68_method_7_code 0 = .ok (.iload_n 0, 1) := by decide +kernel
theorem d1_1 : decode prog_68_method_7_code 1 = .ok (.iload_n 1, 1) := by decide +kernel
theorem d1_2 : decode prog_68_method_7_code 2 = .ok (.idiv, 1) := by decide +kernel
theorem d1_3 : decode prog_68_method_7_code 3 = .ok (.i2l, 1) := by decide +kernel
theorem d1_4 : decode prog_68_method_7_code 4 = .ok (.lstore_n 2, 1) := by decide +kernel
theorem d1_5 : decode prog_68_method_7_code 5 = .ok (.iload_n 0, 1) := by decide +kernel
theorem d1_6 : decode prog_68_method_7_code 6 = .ok (.iload_n 1, 1) := by decide +kernel
theorem d1_7 : decode prog_68_method_7_code 7 = .ok (.irem, 1) := by decide +kernel
theorem d1_8 : decode prog_68_method_7_code 8 = .ok (.i2l, 1) := by decide +kernel
theorem d1_9 : decode prog_68_method_7_code 9 = .ok (.lstore 4, 2) := by decide +kernel
theorem d1_11 : decode prog_68_method_7_code 11 = .ok (.iload_n 0, 1) := by decide +kernel
theorem d1_12 : decode prog_68_method_7_code 12 = .ok (.i2l, 1) := by decide +kernel
theorem d1_13 : decode prog_68_method_7_code 13 = .ok (.invokestatic 217, 3) := by decide +kernel
theorem pd_0 : parseMethodDescriptor "(J)J" = some ⟨[.long], some .long⟩ := by decide +kernel
theorem d1_16 : decode prog_68_method_7_code 16 = .ok (.lload 4, 2) := by decide +kernel
theorem d1_18 : decode prog_68_method_7_code 18 = .ok (.lload_n 2, 1) := by decide +kernel
theorem d1_19 : decode prog_68_method_7_code 19 = .ok (.lconst 1, 1) := by decide +kernel
theorem d1_20 : decode prog_68_method_7_code 20 = .ok (.ladd, 1) := by decide +kernel
theorem d1_21 : decode prog_68_method_7_code 21 = .ok (.invokestatic 217, 3) := by decide +kernel
theorem d1_24 : decode prog_68_method_7_code 24 = .ok (.lmul, 1) := by decide +kernel
theorem d1_25 : decode prog_68_method_7_code 25 = .ok (.lsub, 1) := by decide +kernel
theorem d1_26 : decode prog_68_method_7_code 26 = .ok (.iload_n 1, 1) := by decide +kernel
theorem d1_27 : decode prog_68_method_7_code 27 = .ok (.i2l, 1) := by decide +kernel
theorem d1_28 : decode prog_68_method_7_code 28 = .ok (.lload 4, 2) := by decide +kernel
theorem d1_30 : decode prog_68_method_7_code 30 = .ok (.lsub, 1) := by decide +kernel
theorem d1_31 : decode prog_68_method_7_code 31 = .ok (.lload_n 2, 1) := by decide +kernel
theorem d1_32 : decode prog_68_method_7_code 32 = .ok (.invokestatic 217, 3) := by decide +kernel
theorem d1_35 : decode prog_68_method_7_code 35 = .ok (.lmul, 1) := by decide +kernel
theorem d1_36 : decode prog_68_method_7_code 36 = .ok (.lsub, 1) := by decide +kernel
theorem d1_37 : decode prog_68_method_7_code 37 = .ok (.lreturn, 1) := by decide +kernel
theorem ef_rm1 (m : MethodId) (x0 : Int32) (x1 : Int32) : entryFrame m #[(.int x0), (.int x1)] 6 = mkF m 0 #[.val (.int x0), .val (.int x1), .unset, .unset, .unset, .unset] [] := by first | (simp [entryFrame, mkF, argsToLocals, Value.category]; done) | rfl
def Qrm1 (Z : State) (p1 : Int32) (p2 : Int32)  (h0 : Heap) (n0 : Nat) (v : Option Value) (h : Heap) (L : List Loc) : Prop := v = some (.long (own_me p1 p2)) ∧ Fr n0 L ∧ h = h0
set_option maxRecDepth 65536 in
set_option maxHeartbeats 40000000 in
theorem rm1 (l : Launch) (Z : State) (a0 : Array Value) (hw : ∀ d ∈ tables_1, d.before a0 Z = true) (ws : List Jvm.Cond) (p1 : Int32) (p2 : Int32)  (h0 : Heap) (n0 : Nat) (Z0 : n0 ≤ h0.size) (hnz : ¬ (p2 = (0 : Int32))) :
    MetFree l (⟨"com/example/entente/entente/io/Generators", "maxEdges", "(II)J"⟩ : MethodName) (head1 (Jvm.Cond.code (⟨"com/example/entente/entente/io/Generators", "maxEdges", "(II)J"⟩ : MethodName) prog_68_method_7_code 6 (some .long) :: ws) ({ frames := 1, cells := 0, slots := 0, locals := 17 } : Room)) (fun a U => a = #[(.int p1), (.int p2)] ∧ Z.Warmed39 U.vm ∧ U.heap = h0) (fun _ _ _ _ _ => True) (fun _ U o U' => ∃ v L, o = .returned v ∧ Qrm1 Z p1 p2  h0 n0 v U'.heap L ∧ FrameEnd U o U' L ({ frames := 1, cells := 0, slots := 0, locals := 17 } : Room).cells ({ frames := 1, cells := 0, slots := 0, locals := 17 } : Room).slots) := by
  refine MetFree.of_bodySF (plainFor_of_name pn_com_example_entente_entente_io_Generators) hisR ?_
  intro p e s m args below meth c s₁ Bd hml0 hP hK
  obtain ⟨rfl, hZ, hh⟩ := hP
  have hx := Bd.exec
  have hby := Bd.bytes
  have hml : c.maxLocals = 6 := hml0
  have hown : s.vm.findClass "com/example/entente/entente/io/Generators" = some m.cls := findClass_of_methodNamed Bd.named
  have hnm := (name_of_methodNamed Bd.named Bd.method).1
  have X0 : Stand p l e ({ frames := 1, cells := 0, slots := 0, locals := 17 } : Room) s m #[(.int p1), (.int p2)] below meth c s₁ [] 0 0 := Stand.of_body Bd
  have e0 : s₁.heap = h0 := by rw [← hh, Bd.state]; rfl
  have N0 := Fr.nil n0
  have pre0 : ∀ t, Steps p.tables e below (s₁.setTop (mkF m 0 #[.val (.int p1), .val (.int p2), .unset, .unset, .unset, .unset] [])) t → Steps p.tables e below (s₁.setTop (entryFrame m #[(.int p1), (.int p2)] 6)) t := fun t k => castTop (ef_rm1 m p1 p2) k
  obtain ⟨_, _, ⟨T1, L1, k1, n1⟩, -, X1, ⟨Lc1, hQ1, l1, y1, z1⟩, st1⟩ := Jvm.LawKit.callS X0 hx (y := (⟨"com/example/entente/entente/io/Generators", "pairs", "(J)J"⟩ : MethodName)) hown (mvT hZ (hw _ (List.mem_of_getElem? (i := 6) rfl))) (mvT hZ (hw _ (List.mem_of_getElem? (i := 7) rfl))) (mvT hZ (hw _ (List.mem_of_getElem? (i := 4) rfl))) (mvT hZ (hw _ (List.mem_of_getElem? (i := 8) rfl))) (by decide) (backOf (W := 0) (rm2 l Z a0 hw [] (p1.toInt64)  h0 n0 Z0 ) hZ (hw _ (List.mem_of_getElem? (i := 8) rfl)) (hw _ (List.mem_of_getElem? (i := 4) rfl)) (by decide) (by decide)) (g := (mkF m 13 #[.val (.int p1), .val (.int p2), .val (.long (own_quo p1 p2)), .second, .val (.long (own_rm p1 p2)), .second] [(.long (p1.toInt64))])) rfl (by rw [hml]; rfl) (argsL := [(.long (p1.toInt64))]) (rest := []) (lenOf pd_0 rfl) rfl (by show 2 * 0 + _ ≤ _; exact Nat.le_of_eq rfl) (hb hby d1_13) (fun _ _ => ⟨rfl, e0, (by decide : 0 + 0 ≤ _), (by decide : 0 + 0 ≤ _)⟩)
  dsimp only [Pt.U, Pt.locs, Pt.cells, Pt.slots] at X1 l1 y1 z1 st1 hQ1
  subst l1 y1 z1
  obtain ⟨rfl, N1q, e1⟩ := hQ1
  have N1 := Fr.app N0 N1q
  obtain ⟨_, _, ⟨T2, L2, k2, n2⟩, -, X2, ⟨Lc2, hQ2, l2, y2, z2⟩, st2⟩ := Jvm.LawKit.callS X1 hx (y := (⟨"com/example/entente/entente/io/Generators", "pairs", "(J)J"⟩ : MethodName)) hown (mvT hZ (hw _ (List.mem_of_getElem? (i := 6) rfl))) (mvT hZ (hw _ (List.mem_of_getElem? (i := 7) rfl))) (mvT hZ (hw _ (List.mem_of_getElem? (i := 4) rfl))) (mvT hZ (hw _ (List.mem_of_getElem? (i := 8) rfl))) (by decide) (backOf (W := 4) (rm2 l Z a0 hw [] ((own_quo p1 p2) + (1 : Int64))  h0 n0 Z0 ) hZ (hw _ (List.mem_of_getElem? (i := 8) rfl)) (hw _ (List.mem_of_getElem? (i := 4) rfl)) (by decide) (by decide)) (g := (mkF m 21 #[.val (.int p1), .val (.int p2), .val (.long (own_quo p1 p2)), .second, .val (.long (own_rm p1 p2)), .second] [(.long ((own_quo p1 p2) + (1 : Int64))), (.long (own_rm p1 p2)), (.long (own_pairs (p1.toInt64)))])) rfl (by rw [hml]; rfl) (argsL := [(.long ((own_quo p1 p2) + (1 : Int64)))]) (rest := [(.long (own_rm p1 p2)), (.long (own_pairs (p1.toInt64)))]) (lenOf pd_0 rfl) rfl (by show 2 * 0 + _ ≤ _; exact Nat.le_of_eq rfl) (hb hby d1_21) (fun _ _ => ⟨rfl, e1, (by decide : 0 + 0 ≤ _), (by decide : 0 + 0 ≤ _)⟩)
  dsimp only [Pt.U, Pt.locs, Pt.cells, Pt.slots] at X2 l2 y2 z2 st2 hQ2
  subst l2 y2 z2
  obtain ⟨rfl, N2q, e2⟩ := hQ2
  have N2 := Fr.app N1 N2q
  obtain ⟨_, _, ⟨T3, L3, k3, n3⟩, -, X3, ⟨Lc3, hQ3, l3, y3, z3⟩, st3⟩ := Jvm.LawKit.callS X2 hx (y := (⟨"com/example/entente/entente/io/Generators", "pairs", "(J)J"⟩ : MethodName)) hown (mvT hZ (hw _ (List.mem_of_getElem? (i := 6) rfl))) (mvT hZ (hw _ (List.mem_of_getElem? (i := 7) rfl))) (mvT hZ (hw _ (List.mem_of_getElem? (i := 4) rfl))) (mvT hZ (hw _ (List.mem_of_getElem? (i := 8) rfl))) (by decide) (backOf (W := 4) (rm2 l Z a0 hw [] (own_quo p1 p2)  h0 n0 Z0 ) hZ (hw _ (List.mem_of_getElem? (i := 8) rfl)) (hw _ (List.mem_of_getElem? (i := 4) rfl)) (by decide) (by decide)) (g := (mkF m 32 #[.val (.int p1), .val (.int p2), .val (.long (own_quo p1 p2)), .second, .val (.long (own_rm p1 p2)), .second] [(.long (own_quo p1 p2)), (.long ((p2.toInt64) - (own_rm p1 p2))), (.long ((own_pairs (p1.toInt64)) - ((own_rm p1 p2) * (own_pairs ((own_quo p1 p2) + (1 : Int64))))))])) rfl (by rw [hml]; rfl) (argsL := [(.long (own_quo p1 p2))]) (rest := [(.long ((p2.toInt64) - (own_rm p1 p2))), (.long ((own_pairs (p1.toInt64)) - ((own_rm p1 p2) * (own_pairs ((own_quo p1 p2) + (1 : Int64))))))]) (lenOf pd_0 rfl) rfl (by show 2 * 0 + _ ≤ _; exact Nat.le_of_eq rfl) (hb hby d1_32) (fun _ _ => ⟨rfl, e2, (by decide : 0 + 0 ≤ _), (by decide : 0 + 0 ≤ _)⟩)
  dsimp only [Pt.U, Pt.locs, Pt.cells, Pt.slots] at X3 l3 y3 z3 st3 hQ3
  subst l3 y3 z3
  obtain ⟨rfl, N3q, e3⟩ := hQ3
  have N3 := Fr.app N2 N3q
  obtain ⟨fs, hr, hrun, hended, hW, hsame⟩ := X3.leave (v := some (.long (((own_pairs (p1.toInt64)) - ((own_rm p1 p2) * (own_pairs ((own_quo p1 p2) + (1 : Int64))))) - (((p2.toInt64) - (own_rm p1 p2)) * (own_pairs (own_quo p1 p2)))))) (fun h => by rw [Bd.returns] at h; cases h)
  refine ⟨_, _, pre0 _ ?_, hrun, hended, _, _, rfl, ?_, ⟨_, rfl⟩, hW, hsame.mono (by decide) (by decide)⟩
  · show Steps p.tables e below (s₁.setTop (mkF m 0 #[.val (.int p1), .val (.int p2), .unset, .unset, .unset, .unset] [])) _
    refine XS.iloadN X0.here hx rfl (hb hby d1_0) rfl ?_
    show Steps p.tables e below (s₁.setTop (mkF m 1 #[.val (.int p1), .val (.int p2), .unset, .unset, .unset, .unset] [(.int p1)])) _
    refine XS.iloadN X0.here hx rfl (hb hby d1_1) rfl ?_
    show Steps p.tables e below (s₁.setTop (mkF m 2 #[.val (.int p1), .val (.int p2), .unset, .unset, .unset, .unset] [(.int p2), (.int p1)])) _
    refine XS.idiv X0.here hx rfl (hb hby d1_2) rfl hnz ?_
    show Steps p.tables e below (s₁.setTop (mkF m 3 #[.val (.int p1), .val (.int p2), .unset, .unset, .unset, .unset] [(.int (p1 / p2))])) _
    refine XS.i2l X0.here hx rfl (hb hby d1_3) rfl ?_
    show Steps p.tables e below (s₁.setTop (mkF m 4 #[.val (.int p1), .val (.int p2), .unset, .unset, .unset, .unset] [(.long (own_quo p1 p2))])) _
    refine XS.lstoreN X0.here hx rfl (hb hby d1_4) rfl (l' := #[.val (.int p1), .val (.int p2), .val (.long (own_quo p1 p2)), .second, .unset, .unset]) rfl ?_
    show Steps p.tables e below (s₁.setTop (mkF m 5 #[.val (.int p1), .val (.int p2), .val (.long (own_quo p1 p2)), .second, .unset, .unset] [])) _
    refine XS.iloadN X0.here hx rfl (hb hby d1_5) rfl ?_
    show Steps p.tables e below (s₁.setTop (mkF m 6 #[.val (.int p1), .val (.int p2), .val (.long (own_quo p1 p2)), .second, .unset, .unset] [(.int p1)])) _
    refine XS.iloadN X0.here hx rfl (hb hby d1_6) rfl ?_
    show Steps p.tables e below (s₁.setTop (mkF m 7 #[.val (.int p1), .val (.int p2), .val (.long (own_quo p1 p2)), .second, .unset, .unset] [(.int p2), (.int p1)])) _
    refine iremM X0 hx rfl (hb hby d1_7) rfl hnz ?_
    show Steps p.tables e below (s₁.setTop (mkF m 8 #[.val (.int p1), .val (.int p2), .val (.long (own_quo p1 p2)), .second, .unset, .unset] [(.int (p1 % p2))])) _
    refine XS.i2l X0.here hx rfl (hb hby d1_8) rfl ?_
    show Steps p.tables e below (s₁.setTop (mkF m 9 #[.val (.int p1), .val (.int p2), .val (.long (own_quo p1 p2)), .second, .unset, .unset] [(.long (own_rm p1 p2))])) _
    refine XS.lstore X0.here hx rfl (hb hby d1_9) rfl (l' := #[.val (.int p1), .val (.int p2), .val (.long (own_quo p1 p2)), .second, .val (.long (own_rm p1 p2)), .second]) rfl ?_
    show Steps p.tables e below (s₁.setTop (mkF m 11 #[.val (.int p1), .val (.int p2), .val (.long (own_quo p1 p2)), .second, .val (.long (own_rm p1 p2)), .second] [])) _
    refine XS.iloadN X0.here hx rfl (hb hby d1_11) rfl ?_
    show Steps p.tables e below (s₁.setTop (mkF m 12 #[.val (.int p1), .val (.int p2), .val (.long (own_quo p1 p2)), .second, .val (.long (own_rm p1 p2)), .second] [(.int p1)])) _
    refine XS.i2l X0.here hx rfl (hb hby d1_12) rfl ?_
    show Steps p.tables e below (s₁.setTop (mkF m 13 #[.val (.int p1), .val (.int p2), .val (.long (own_quo p1 p2)), .second, .val (.long (own_rm p1 p2)), .second] [(.long (p1.toInt64))])) _
    refine st1 _ ?_
    show Steps p.tables e below (T1.setTop (mkF m 16 #[.val (.int p1), .val (.int p2), .val (.long (own_quo p1 p2)), .second, .val (.long (own_rm p1 p2)), .second] [(.long (own_pairs (p1.toInt64)))])) _
    refine XS.lload X1.here hx rfl (hb hby d1_16) rfl ?_
    show Steps p.tables e below (T1.setTop (mkF m 18 #[.val (.int p1), .val (.int p2), .val (.long (own_quo p1 p2)), .second, .val (.long (own_rm p1 p2)), .second] [(.long (own_rm p1 p2)), (.long (own_pairs (p1.toInt64)))])) _
    refine XS.lloadN X1.here hx rfl (hb hby d1_18) rfl ?_
    show Steps p.tables e below (T1.setTop (mkF m 19 #[.val (.int p1), .val (.int p2), .val (.long (own_quo p1 p2)), .second, .val (.long (own_rm p1 p2)), .second] [(.long (own_quo p1 p2)), (.long (own_rm p1 p2)), (.long (own_pairs (p1.toInt64)))])) _
    refine XS.lconst X1.here hx rfl (hb hby d1_19) ?_
    show Steps p.tables e below (T1.setTop (mkF m 20 #[.val (.int p1), .val (.int p2), .val (.long (own_quo p1 p2)), .second, .val (.long (own_rm p1 p2)), .second] [(.long (1 : Int64)), (.long (own_quo p1 p2)), (.long (own_rm p1 p2)), (.long (own_pairs (p1.toInt64)))])) _
    refine XS.ladd X1.here hx rfl (hb hby d1_20) rfl ?_
    show Steps p.tables e below (T1.setTop (mkF m 21 #[.val (.int p1), .val (.int p2), .val (.long (own_quo p1 p2)), .second, .val (.long (own_rm p1 p2)), .second] [(.long ((own_quo p1 p2) + (1 : Int64))), (.long (own_rm p1 p2)), (.long (own_pairs (p1.toInt64)))])) _
    refine st2 _ ?_
    show Steps p.tables e below (T2.setTop (mkF m 24 #[.val (.int p1), .val (.int p2), .val (.long (own_quo p1 p2)), .second, .val (.long (own_rm p1 p2)), .second] [(.long (own_pairs ((own_quo p1 p2) + (1 : Int64)))), (.long (own_rm p1 p2)), (.long (own_pairs (p1.toInt64)))])) _
    refine XS.lmul X2.here hx rfl (hb hby d1_24) rfl ?_
    show Steps p.tables e below (T2.setTop (mkF m 25 #[.val (.int p1), .val (.int p2), .val (.long (own_quo p1 p2)), .second, .val (.long (own_rm p1 p2)), .second] [(.long ((own_rm p1 p2) * (own_pairs ((own_quo p1 p2) + (1 : Int64))))), (.long (own_pairs (p1.toInt64)))])) _
    refine XS.lsub X2.here hx rfl (hb hby d1_25) rfl ?_
    show Steps p.tables e below (T2.setTop (mkF m 26 #[.val (.int p1), .val (.int p2), .val (.long (own_quo p1 p2)), .second, .val (.long (own_rm p1 p2)), .second] [(.long ((own_pairs (p1.toInt64)) - ((own_rm p1 p2) * (own_pairs ((own_quo p1 p2) + (1 : Int64))))))])) _
    refine XS.iloadN X2.here hx rfl (hb hby d1_26) rfl ?_
    show Steps p.tables e below (T2.setTop (mkF m 27 #[.val (.int p1), .val (.int p2), .val (.long (own_quo p1 p2)), .second, .val (.long (own_rm p1 p2)), .second] [(.int p2), (.long ((own_pairs (p1.toInt64)) - ((own_rm p1 p2) * (own_pairs ((own_quo p1 p2) + (1 : Int64))))))])) _
    refine XS.i2l X2.here hx rfl (hb hby d1_27) rfl ?_
    show Steps p.tables e below (T2.setTop (mkF m 28 #[.val (.int p1), .val (.int p2), .val (.long (own_quo p1 p2)), .second, .val (.long (own_rm p1 p2)), .second] [(.long (p2.toInt64)), (.long ((own_pairs (p1.toInt64)) - ((own_rm p1 p2) * (own_pairs ((own_quo p1 p2) + (1 : Int64))))))])) _
    refine XS.lload X2.here hx rfl (hb hby d1_28) rfl ?_
    show Steps p.tables e below (T2.setTop (mkF m 30 #[.val (.int p1), .val (.int p2), .val (.long (own_quo p1 p2)), .second, .val (.long (own_rm p1 p2)), .second] [(.long (own_rm p1 p2)), (.long (p2.toInt64)), (.long ((own_pairs (p1.toInt64)) - ((own_rm p1 p2) * (own_pairs ((own_quo p1 p2) + (1 : Int64))))))])) _
    refine XS.lsub X2.here hx rfl (hb hby d1_30) rfl ?_
    show Steps p.tables e below (T2.setTop (mkF m 31 #[.val (.int p1), .val (.int p2), .val (.long (own_quo p1 p2)), .second, .val (.long (own_rm p1 p2)), .second] [(.long ((p2.toInt64) - (own_rm p1 p2))), (.long ((own_pairs (p1.toInt64)) - ((own_rm p1 p2) * (own_pairs ((own_quo p1 p2) + (1 : Int64))))))])) _
    refine XS.lloadN X2.here hx rfl (hb hby d1_31) rfl ?_
    show Steps p.tables e below (T2.setTop (mkF m 32 #[.val (.int p1), .val (.int p2), .val (.long (own_quo p1 p2)), .second, .val (.long (own_rm p1 p2)), .second] [(.long (own_quo p1 p2)), (.long ((p2.toInt64) - (own_rm p1 p2))), (.long ((own_pairs (p1.toInt64)) - ((own_rm p1 p2) * (own_pairs ((own_quo p1 p2) + (1 : Int64))))))])) _
    refine st3 _ ?_
    show Steps p.tables e below (T3.setTop (mkF m 35 #[.val (.int p1), .val (.int p2), .val (.long (own_quo p1 p2)), .second, .val (.long (own_rm p1 p2)), .second] [(.long (own_pairs (own_quo p1 p2))), (.long ((p2.toInt64) - (own_rm p1 p2))), (.long ((own_pairs (p1.toInt64)) - ((own_rm p1 p2) * (own_pairs ((own_quo p1 p2) + (1 : Int64))))))])) _
    refine XS.lmul X3.here hx rfl (hb hby d1_35) rfl ?_
    show Steps p.tables e below (T3.setTop (mkF m 36 #[.val (.int p1), .val (.int p2), .val (.long (own_quo p1 p2)), .second, .val (.long (own_rm p1 p2)), .second] [(.long (((p2.toInt64) - (own_rm p1 p2)) * (own_pairs (own_quo p1 p2)))), (.long ((own_pairs (p1.toInt64)) - ((own_rm p1 p2) * (own_pairs ((own_quo p1 p2) + (1 : Int64))))))])) _
    refine XS.lsub X3.here hx rfl (hb hby d1_36) rfl ?_
    show Steps p.tables e below (T3.setTop (mkF m 37 #[.val (.int p1), .val (.int p2), .val (.long (own_quo p1 p2)), .second, .val (.long (own_rm p1 p2)), .second] [(.long (((own_pairs (p1.toInt64)) - ((own_rm p1 p2) * (own_pairs ((own_quo p1 p2) + (1 : Int64))))) - (((p2.toInt64) - (own_rm p1 p2)) * (own_pairs (own_quo p1 p2)))))])) _
    jvm_step X3.here [X3.here.top, hx, (hb hby d1_37), X3.method', Bd.returns, narrow]
    first | (intro acts; rw [hr _ acts rfl rfl rfl]) | rw [hr _ _ rfl rfl rfl]
    exact Steps.refl _
  · show Qrm1 Z p1 p2  h0 n0 _ T3.heap _
    rw [e3]
    exact ⟨rfl, N3, rfl⟩
theorem pd_1 : parseMethodDescriptor "(II)J" = some ⟨[.int, .int], some .long⟩ := by decide +kernel
theorem pd_2 : parseMethodDescriptor "(I)J" = some ⟨[.int], some .long⟩ := by decide +kernel
theorem ef_rm0 (m : MethodId) (x0 : Int32) (x1 : Int32) : entryFrame m #[(.int x0), (.int x1)] maxLocals = mkF m 0 #[.val (.int x0), .val (.int x1), .unset, .unset, .unset, .unset, .unset, .unset, .unset, .unset] [] := by first | (simp [entryFrame, mkF, argsToLocals, Value.category, maxLocals]; done) | rfl
def Qrm0 (Z : State) (p1 : Int32) (p2 : Int32)  (h0 : Heap) (n0 : Nat) (v : Option Value) (h : Heap) (L : List Loc) : Prop := v = some (.int (1 : Int32)) ∧ Fr n0 L
set_option maxRecDepth 65536 in
set_option maxHeartbeats 40000000 in
theorem rm0 (l : Launch) (Z : State) (a0 : Array Value) (hw : ∀ d ∈ tables_1, d.before a0 Z = true) (ws : List Jvm.Cond) (p1 : Int32) (p2 : Int32)  (h0 : Heap) (n0 : Nat) (Z0 : n0 ≤ h0.size)  :
    MetFree l x (head1 (Jvm.Cond.code x code maxLocals ret :: ws) room_1) (fun a U => a = #[(.int p1), (.int p2)] ∧ Z.Warmed39 U.vm ∧ U.heap = h0) (fun _ _ _ _ _ => True) (fun _ U o U' => ∃ v L, o = .returned v ∧ Qrm0 Z p1 p2  h0 n0 v U'.heap L ∧ FrameEnd U o U' L room_1.cells room_1.slots) := by
  refine MetFree.of_bodySF (plainFor_of_name pn_com_example_entente_entente_io_GeneratorsMaxEdgesPinLaw) hisR ?_
  intro p e s m args below meth c s₁ Bd hml0 hP hK
  obtain ⟨rfl, hZ, hh⟩ := hP
  have hx := Bd.exec
  have hby := Bd.bytes
  have hml : c.maxLocals = 10 := hml0
  have hown : s.vm.findClass "com/example/entente/entente/io/GeneratorsMaxEdgesPinLaw" = some m.cls := findClass_of_methodNamed Bd.named
  have hnm := (name_of_methodNamed Bd.named Bd.method).1
  have X0 : Stand p l e room_1 s m #[(.int p1), (.int p2)] below meth c s₁ [] 0 0 := Stand.of_body Bd
  have e0 : s₁.heap = h0 := by rw [← hh, Bd.state]; rfl
  have N0 := Fr.nil n0
  have pre0 : ∀ t, Steps p.tables e below (s₁.setTop (mkF m 0 #[.val (.int p1), .val (.int p2), .unset, .unset, .unset, .unset, .unset, .unset, .unset, .unset] [])) t → Steps p.tables e below (s₁.setTop (entryFrame m #[(.int p1), (.int p2)] maxLocals)) t := fun t k => castTop (ef_rm0 m p1 p2) k
  by_cases hc : own_kk p2 < own_n p1
  · obtain ⟨_, _, ⟨T1, L1, k1, n1⟩, -, X1, ⟨Lc1, hQ1, l1, y1, z1⟩, st1⟩ := Jvm.LawKit.callS X0 hx (y := (⟨"com/example/entente/entente/io/Generators", "maxEdges", "(II)J"⟩ : MethodName)) hown (mvT hZ (hw _ (List.mem_of_getElem? (i := 2) rfl))) (mvT hZ (hw _ (List.mem_of_getElem? (i := 3) rfl))) (mvT hZ (hw _ (List.mem_of_getElem? (i := 4) rfl))) (mvT hZ (hw _ (List.mem_of_getElem? (i := 5) rfl))) (by decide) (backOf (W := 0) (rm1 l Z a0 hw [] (own_n p1) (own_kk p2)  h0 n0 Z0 (own_nz p2)) hZ (hw _ (List.mem_of_getElem? (i := 5) rfl)) (hw _ (List.mem_of_getElem? (i := 4) rfl)) (by decide) (by decide)) (g := (mkF m 22 #[.val (.int p1), .val (.int p2), .val (.int (own_n p1)), .val (.int (own_kk p2)), .unset, .unset, .unset, .unset, .unset, .unset] [(.int (own_kk p2)), (.int (own_n p1))])) rfl (by rw [hml]; rfl) (argsL := [(.int (own_n p1)), (.int (own_kk p2))]) (rest := []) (lenOf pd_1 rfl) rfl (by show 2 * 0 + _ ≤ _; exact Nat.le_of_eq rfl) (hb hby at_22) (fun _ _ => ⟨rfl, e0, (by decide : 0 + 0 ≤ _), (by decide : 0 + 0 ≤ _)⟩)
    dsimp only [Pt.U, Pt.locs, Pt.cells, Pt.slots] at X1 l1 y1 z1 st1 hQ1
    subst l1 y1 z1
    obtain ⟨rfl, N1q, e1⟩ := hQ1
    have N1 := Fr.app N0 N1q
    obtain ⟨_, _, ⟨T2, L2, k2, n2⟩, -, X2, ⟨Lc2, hQ2, l2, y2, z2⟩, st2⟩ := Jvm.LawKit.callS X1 hx (y := (⟨"com/example/entente/entente/io/Generators", "maxEdges", "(II)J"⟩ : MethodName)) hown (mvT hZ (hw _ (List.mem_of_getElem? (i := 2) rfl))) (mvT hZ (hw _ (List.mem_of_getElem? (i := 3) rfl))) (mvT hZ (hw _ (List.mem_of_getElem? (i := 4) rfl))) (mvT hZ (hw _ (List.mem_of_getElem? (i := 5) rfl))) (by decide) (backOf (W := 0) (rm1 l Z a0 hw [] ((own_n p1) + (1 : Int32)) (own_kk p2)  h0 n0 Z0 (own_nz p2)) hZ (hw _ (List.mem_of_getElem? (i := 5) rfl)) (hw _ (List.mem_of_getElem? (i := 4) rfl)) (by decide) (by decide)) (g := (mkF m 31 #[.val (.int p1), .val (.int p2), .val (.int (own_n p1)), .val (.int (own_kk p2)), .val (.long (own_me (own_n p1) (own_kk p2))), .second, .unset, .unset, .unset, .unset] [(.int (own_kk p2)), (.int ((own_n p1) + (1 : Int32)))])) rfl (by rw [hml]; rfl) (argsL := [(.int ((own_n p1) + (1 : Int32))), (.int (own_kk p2))]) (rest := []) (lenOf pd_1 rfl) rfl (by show 2 * 0 + _ ≤ _; exact Nat.le_of_eq rfl) (hb hby at_31) (fun _ _ => ⟨rfl, e1, (by decide : 0 + 0 ≤ _), (by decide : 0 + 0 ≤ _)⟩)
    dsimp only [Pt.U, Pt.locs, Pt.cells, Pt.slots] at X2 l2 y2 z2 st2 hQ2
    subst l2 y2 z2
    obtain ⟨rfl, N2q, e2⟩ := hQ2
    have N2 := Fr.app N1 N2q
    obtain ⟨_, _, ⟨T3, L3, k3, n3⟩, -, X3, ⟨Lc3, hQ3, l3, y3, z3⟩, st3⟩ := Jvm.LawKit.callS X2 hx (y := (⟨"com/example/entente/entente/io/GeneratorsMaxEdgesPinLaw", "allPairs", "(I)J"⟩ : MethodName)) hown (mvT hZ (hw _ (List.mem_of_getElem? (i := 10) rfl))) (mvT hZ (hw _ (List.mem_of_getElem? (i := 11) rfl))) (mvT hZ (hw _ (List.mem_of_getElem? (i := 12) rfl))) (mvT hZ (hw _ (List.mem_of_getElem? (i := 13) rfl))) (by decide) (backOf (W := 2) (rm3 l Z a0 hw [] (own_n p1)  h0 n0 Z0 ) hZ (hw _ (List.mem_of_getElem? (i := 13) rfl)) (hw _ (List.mem_of_getElem? (i := 12) rfl)) (by decide) (by decide)) (g := (mkF m 46 #[.val (.int p1), .val (.int p2), .val (.int (own_n p1)), .val (.int (own_kk p2)), .val (.long (own_me (own_n p1) (own_kk p2))), .second, .val (.long (own_me ((own_n p1) + (1 : Int32)) (own_kk p2))), .second, .unset, .unset] [(.int (own_n p1)), (.long (own_me (own_n p1) (own_kk p2)))])) rfl (by rw [hml]; rfl) (argsL := [(.int (own_n p1))]) (rest := [(.long (own_me (own_n p1) (own_kk p2)))]) (lenOf pd_2 rfl) rfl (by show 2 * 0 + _ ≤ _; exact Nat.le_of_eq rfl) (hb hby at_46) (fun _ _ => ⟨rfl, e2, (by decide : 0 + 0 ≤ _), (by decide : 0 + 0 ≤ _)⟩)
    dsimp only [Pt.U, Pt.locs, Pt.cells, Pt.slots] at X3 l3 y3 z3 st3 hQ3
    subst l3 y3 z3
    obtain ⟨rfl, N3q, e3⟩ := hQ3
    have N3 := Fr.app N2 N3q
    obtain ⟨fs, hr, hrun, hended, hW, hsame⟩ := X3.leave (v := some (.int (1 : Int32))) (fun h => by rw [Bd.returns] at h; cases h)
    refine ⟨_, _, pre0 _ ?_, hrun, hended, _, _, rfl, ?_, ⟨_, rfl⟩, hW, hsame.mono (by decide) (by decide)⟩
    · show Steps p.tables e below (s₁.setTop (mkF m 0 #[.val (.int p1), .val (.int p2), .unset, .unset, .unset, .unset, .unset, .unset, .unset, .unset] [])) _
      refine XS.iconst X0.here hx rfl (hb hby at_0) ?_
      show Steps p.tables e below (s₁.setTop (mkF m 1 #[.val (.int p1), .val (.int p2), .unset, .unset, .unset, .unset, .unset, .unset, .unset, .unset] [(.int (1 : Int32))])) _
      refine XS.iloadN X0.here hx rfl (hb hby at_1) rfl ?_
      show Steps p.tables e below (s₁.setTop (mkF m 2 #[.val (.int p1), .val (.int p2), .unset, .unset, .unset, .unset, .unset, .unset, .unset, .unset] [(.int p1), (.int (1 : Int32))])) _
      refine X0.ldcInt hx hown (mvT hZ (hw _ (List.mem_of_getElem? (i := 0) rfl))) (g := (mkF m 2 #[.val (.int p1), .val (.int p2), .unset, .unset, .unset, .unset, .unset, .unset, .unset, .unset] [(.int p1), (.int (1 : Int32))])) rfl (hb hby at_2) _ ?_
      show Steps p.tables e below (s₁.setTop (mkF m 4 #[.val (.int p1), .val (.int p2), .unset, .unset, .unset, .unset, .unset, .unset, .unset, .unset] [(.int (2147483647 : Int32)), (.int p1), (.int (1 : Int32))])) _
      refine XS.iand X0.here hx rfl (hb hby at_4) rfl ?_
      show Steps p.tables e below (s₁.setTop (mkF m 5 #[.val (.int p1), .val (.int p2), .unset, .unset, .unset, .unset, .unset, .unset, .unset, .unset] [(.int (p1 &&& (2147483647 : Int32))), (.int (1 : Int32))])) _
      refine X0.ldcInt hx hown (mvT hZ (hw _ (List.mem_of_getElem? (i := 1) rfl))) (g := (mkF m 5 #[.val (.int p1), .val (.int p2), .unset, .unset, .unset, .unset, .unset, .unset, .unset, .unset] [(.int (p1 &&& (2147483647 : Int32))), (.int (1 : Int32))])) rfl (hb hby at_5) _ ?_
      show Steps p.tables e below (s₁.setTop (mkF m 7 #[.val (.int p1), .val (.int p2), .unset, .unset, .unset, .unset, .unset, .unset, .unset, .unset] [(.int (2147483646 : Int32)), (.int (p1 &&& (2147483647 : Int32))), (.int (1 : Int32))])) _
      refine iremM X0 hx rfl (hb hby at_7) rfl (by decide) ?_
      show Steps p.tables e below (s₁.setTop (mkF m 8 #[.val (.int p1), .val (.int p2), .unset, .unset, .unset, .unset, .unset, .unset, .unset, .unset] [(.int ((p1 &&& (2147483647 : Int32)) % (2147483646 : Int32))), (.int (1 : Int32))])) _
      refine XS.iadd X0.here hx rfl (hb hby at_8) rfl ?_
      show Steps p.tables e below (s₁.setTop (mkF m 9 #[.val (.int p1), .val (.int p2), .unset, .unset, .unset, .unset, .unset, .unset, .unset, .unset] [(.int (own_n p1))])) _
      refine XS.istoreN X0.here hx rfl (hb hby at_9) rfl (l' := #[.val (.int p1), .val (.int p2), .val (.int (own_n p1)), .unset, .unset, .unset, .unset, .unset, .unset, .unset]) rfl ?_
      show Steps p.tables e below (s₁.setTop (mkF m 10 #[.val (.int p1), .val (.int p2), .val (.int (own_n p1)), .unset, .unset, .unset, .unset, .unset, .unset, .unset] [])) _
      refine XS.iconst X0.here hx rfl (hb hby at_10) ?_
      show Steps p.tables e below (s₁.setTop (mkF m 11 #[.val (.int p1), .val (.int p2), .val (.int (own_n p1)), .unset, .unset, .unset, .unset, .unset, .unset, .unset] [(.int (1 : Int32))])) _
      refine XS.iloadN X0.here hx rfl (hb hby at_11) rfl ?_
      show Steps p.tables e below (s₁.setTop (mkF m 12 #[.val (.int p1), .val (.int p2), .val (.int (own_n p1)), .unset, .unset, .unset, .unset, .unset, .unset, .unset] [(.int p2), (.int (1 : Int32))])) _
      refine X0.ldcInt hx hown (mvT hZ (hw _ (List.mem_of_getElem? (i := 0) rfl))) (g := (mkF m 12 #[.val (.int p1), .val (.int p2), .val (.int (own_n p1)), .unset, .unset, .unset, .unset, .unset, .unset, .unset] [(.int p2), (.int (1 : Int32))])) rfl (hb hby at_12) _ ?_
      show Steps p.tables e below (s₁.setTop (mkF m 14 #[.val (.int p1), .val (.int p2), .val (.int (own_n p1)), .unset, .unset, .unset, .unset, .unset, .unset, .unset] [(.int (2147483647 : Int32)), (.int p2), (.int (1 : Int32))])) _
      refine XS.iand X0.here hx rfl (hb hby at_14) rfl ?_
      show Steps p.tables e below (s₁.setTop (mkF m 15 #[.val (.int p1), .val (.int p2), .val (.int (own_n p1)), .unset, .unset, .unset, .unset, .unset, .unset, .unset] [(.int (p2 &&& (2147483647 : Int32))), (.int (1 : Int32))])) _
      refine X0.ldcInt hx hown (mvT hZ (hw _ (List.mem_of_getElem? (i := 0) rfl))) (g := (mkF m 15 #[.val (.int p1), .val (.int p2), .val (.int (own_n p1)), .unset, .unset, .unset, .unset, .unset, .unset, .unset] [(.int (p2 &&& (2147483647 : Int32))), (.int (1 : Int32))])) rfl (hb hby at_15) _ ?_
      show Steps p.tables e below (s₁.setTop (mkF m 17 #[.val (.int p1), .val (.int p2), .val (.int (own_n p1)), .unset, .unset, .unset, .unset, .unset, .unset, .unset] [(.int (2147483647 : Int32)), (.int (p2 &&& (2147483647 : Int32))), (.int (1 : Int32))])) _
      refine iremM X0 hx rfl (hb hby at_17) rfl (by decide) ?_
      show Steps p.tables e below (s₁.setTop (mkF m 18 #[.val (.int p1), .val (.int p2), .val (.int (own_n p1)), .unset, .unset, .unset, .unset, .unset, .unset, .unset] [(.int ((p2 &&& (2147483647 : Int32)) % (2147483647 : Int32))), (.int (1 : Int32))])) _
      refine XS.iadd X0.here hx rfl (hb hby at_18) rfl ?_
      show Steps p.tables e below (s₁.setTop (mkF m 19 #[.val (.int p1), .val (.int p2), .val (.int (own_n p1)), .unset, .unset, .unset, .unset, .unset, .unset, .unset] [(.int (own_kk p2))])) _
      refine XS.istoreN X0.here hx rfl (hb hby at_19) rfl (l' := #[.val (.int p1), .val (.int p2), .val (.int (own_n p1)), .val (.int (own_kk p2)), .unset, .unset, .unset, .unset, .unset, .unset]) rfl ?_
      show Steps p.tables e below (s₁.setTop (mkF m 20 #[.val (.int p1), .val (.int p2), .val (.int (own_n p1)), .val (.int (own_kk p2)), .unset, .unset, .unset, .unset, .unset, .unset] [])) _
      refine XS.iloadN X0.here hx rfl (hb hby at_20) rfl ?_
      show Steps p.tables e below (s₁.setTop (mkF m 21 #[.val (.int p1), .val (.int p2), .val (.int (own_n p1)), .val (.int (own_kk p2)), .unset, .unset, .unset, .unset, .unset, .unset] [(.int (own_n p1))])) _
      refine XS.iloadN X0.here hx rfl (hb hby at_21) rfl ?_
      show Steps p.tables e below (s₁.setTop (mkF m 22 #[.val (.int p1), .val (.int p2), .val (.int (own_n p1)), .val (.int (own_kk p2)), .unset, .unset, .unset, .unset, .unset, .unset] [(.int (own_kk p2)), (.int (own_n p1))])) _
      refine st1 _ ?_
      show Steps p.tables e below (T1.setTop (mkF m 25 #[.val (.int p1), .val (.int p2), .val (.int (own_n p1)), .val (.int (own_kk p2)), .unset, .unset, .unset, .unset, .unset, .unset] [(.long (own_me (own_n p1) (own_kk p2)))])) _
      refine XS.lstore X1.here hx rfl (hb hby at_25) rfl (l' := #[.val (.int p1), .val (.int p2), .val (.int (own_n p1)), .val (.int (own_kk p2)), .val (.long (own_me (own_n p1) (own_kk p2))), .second, .unset, .unset, .unset, .unset]) rfl ?_
      show Steps p.tables e below (T1.setTop (mkF m 27 #[.val (.int p1), .val (.int p2), .val (.int (own_n p1)), .val (.int (own_kk p2)), .val (.long (own_me (own_n p1) (own_kk p2))), .second, .unset, .unset, .unset, .unset] [])) _
      refine XS.iloadN X1.here hx rfl (hb hby at_27) rfl ?_
      show Steps p.tables e below (T1.setTop (mkF m 28 #[.val (.int p1), .val (.int p2), .val (.int (own_n p1)), .val (.int (own_kk p2)), .val (.long (own_me (own_n p1) (own_kk p2))), .second, .unset, .unset, .unset, .unset] [(.int (own_n p1))])) _
      refine XS.iconst X1.here hx rfl (hb hby at_28) ?_
      show Steps p.tables e below (T1.setTop (mkF m 29 #[.val (.int p1), .val (.int p2), .val (.int (own_n p1)), .val (.int (own_kk p2)), .val (.long (own_me (own_n p1) (own_kk p2))), .second, .unset, .unset, .unset, .unset] [(.int (1 : Int32)), (.int (own_n p1))])) _
      refine XS.iadd X1.here hx rfl (hb hby at_29) rfl ?_
      show Steps p.tables e below (T1.setTop (mkF m 30 #[.val (.int p1), .val (.int p2), .val (.int (own_n p1)), .val (.int (own_kk p2)), .val (.long (own_me (own_n p1) (own_kk p2))), .second, .unset, .unset, .unset, .unset] [(.int ((own_n p1) + (1 : Int32)))])) _
      refine XS.iloadN X1.here hx rfl (hb hby at_30) rfl ?_
      show Steps p.tables e below (T1.setTop (mkF m 31 #[.val (.int p1), .val (.int p2), .val (.int (own_n p1)), .val (.int (own_kk p2)), .val (.long (own_me (own_n p1) (own_kk p2))), .second, .unset, .unset, .unset, .unset] [(.int (own_kk p2)), (.int ((own_n p1) + (1 : Int32)))])) _
      refine st2 _ ?_
      show Steps p.tables e below (T2.setTop (mkF m 34 #[.val (.int p1), .val (.int p2), .val (.int (own_n p1)), .val (.int (own_kk p2)), .val (.long (own_me (own_n p1) (own_kk p2))), .second, .unset, .unset, .unset, .unset] [(.long (own_me ((own_n p1) + (1 : Int32)) (own_kk p2)))])) _
      refine XS.lstore X2.here hx rfl (hb hby at_34) rfl (l' := #[.val (.int p1), .val (.int p2), .val (.int (own_n p1)), .val (.int (own_kk p2)), .val (.long (own_me (own_n p1) (own_kk p2))), .second, .val (.long (own_me ((own_n p1) + (1 : Int32)) (own_kk p2))), .second, .unset, .unset]) rfl ?_
      show Steps p.tables e below (T2.setTop (mkF m 36 #[.val (.int p1), .val (.int p2), .val (.int (own_n p1)), .val (.int (own_kk p2)), .val (.long (own_me (own_n p1) (own_kk p2))), .second, .val (.long (own_me ((own_n p1) + (1 : Int32)) (own_kk p2))), .second, .unset, .unset] [])) _
      refine XS.lload X2.here hx rfl (hb hby at_36) rfl ?_
      show Steps p.tables e below (T2.setTop (mkF m 38 #[.val (.int p1), .val (.int p2), .val (.int (own_n p1)), .val (.int (own_kk p2)), .val (.long (own_me (own_n p1) (own_kk p2))), .second, .val (.long (own_me ((own_n p1) + (1 : Int32)) (own_kk p2))), .second, .unset, .unset] [(.long (own_me (own_n p1) (own_kk p2)))])) _
      refine XS.lconst X2.here hx rfl (hb hby at_38) ?_
      show Steps p.tables e below (T2.setTop (mkF m 39 #[.val (.int p1), .val (.int p2), .val (.int (own_n p1)), .val (.int (own_kk p2)), .val (.long (own_me (own_n p1) (own_kk p2))), .second, .val (.long (own_me ((own_n p1) + (1 : Int32)) (own_kk p2))), .second, .unset, .unset] [(.long (0 : Int64)), (.long (own_me (own_n p1) (own_kk p2)))])) _
      refine XS.lcmp X2.here hx rfl (hb hby at_39) rfl ?_
      show Steps p.tables e below (T2.setTop (mkF m 40 #[.val (.int p1), .val (.int p2), .val (.int (own_n p1)), .val (.int (own_kk p2)), .val (.long (own_me (own_n p1) (own_kk p2))), .second, .val (.long (own_me ((own_n p1) + (1 : Int32)) (own_kk p2))), .second, .unset, .unset] [(.int (lcmpW (own_me (own_n p1) (own_kk p2)) (0 : Int64)))])) _
      refine XS.ifNo X2.here hx rfl (hb hby at_40) rfl ((if0 _ _).trans (flt (own_c1 p1 p2 : ¬ ((lcmpW (own_me (own_n p1) (own_kk p2)) (0 : Int64)) < (0 : Int32)))).1) ?_
      show Steps p.tables e below (T2.setTop (mkF m 43 #[.val (.int p1), .val (.int p2), .val (.int (own_n p1)), .val (.int (own_kk p2)), .val (.long (own_me (own_n p1) (own_kk p2))), .second, .val (.long (own_me ((own_n p1) + (1 : Int32)) (own_kk p2))), .second, .unset, .unset] [])) _
      refine XS.lload X2.here hx rfl (hb hby at_43) rfl ?_
      show Steps p.tables e below (T2.setTop (mkF m 45 #[.val (.int p1), .val (.int p2), .val (.int (own_n p1)), .val (.int (own_kk p2)), .val (.long (own_me (own_n p1) (own_kk p2))), .second, .val (.long (own_me ((own_n p1) + (1 : Int32)) (own_kk p2))), .second, .unset, .unset] [(.long (own_me (own_n p1) (own_kk p2)))])) _
      refine XS.iloadN X2.here hx rfl (hb hby at_45) rfl ?_
      show Steps p.tables e below (T2.setTop (mkF m 46 #[.val (.int p1), .val (.int p2), .val (.int (own_n p1)), .val (.int (own_kk p2)), .val (.long (own_me (own_n p1) (own_kk p2))), .second, .val (.long (own_me ((own_n p1) + (1 : Int32)) (own_kk p2))), .second, .unset, .unset] [(.int (own_n p1)), (.long (own_me (own_n p1) (own_kk p2)))])) _
      refine st3 _ ?_
      show Steps p.tables e below (T3.setTop (mkF m 49 #[.val (.int p1), .val (.int p2), .val (.int (own_n p1)), .val (.int (own_kk p2)), .val (.long (own_me (own_n p1) (own_kk p2))), .second, .val (.long (own_me ((own_n p1) + (1 : Int32)) (own_kk p2))), .second, .unset, .unset] [(.long (own_all (own_n p1))), (.long (own_me (own_n p1) (own_kk p2)))])) _
      refine XS.lcmp X3.here hx rfl (hb hby at_49) rfl ?_
      show Steps p.tables e below (T3.setTop (mkF m 50 #[.val (.int p1), .val (.int p2), .val (.int (own_n p1)), .val (.int (own_kk p2)), .val (.long (own_me (own_n p1) (own_kk p2))), .second, .val (.long (own_me ((own_n p1) + (1 : Int32)) (own_kk p2))), .second, .unset, .unset] [(.int (lcmpW (own_me (own_n p1) (own_kk p2)) (own_all (own_n p1))))])) _
      refine XS.ifYes X3.here hx rfl (pc0 := 50) (pc' := 55) rfl (hb hby at_50) rfl ((if0 _ _).trans (flt (own_c2 p1 p2 : ¬ ((0 : Int32) < (lcmpW (own_me (own_n p1) (own_kk p2)) (own_all (own_n p1)))))).2.2.2) (by decide) (by decide) ?_
      show Steps p.tables e below (T3.setTop (mkF m 55 #[.val (.int p1), .val (.int p2), .val (.int (own_n p1)), .val (.int (own_kk p2)), .val (.long (own_me (own_n p1) (own_kk p2))), .second, .val (.long (own_me ((own_n p1) + (1 : Int32)) (own_kk p2))), .second, .unset, .unset] [])) _
      refine XS.iloadN X3.here hx rfl (hb hby at_55) rfl ?_
      show Steps p.tables e below (T3.setTop (mkF m 56 #[.val (.int p1), .val (.int p2), .val (.int (own_n p1)), .val (.int (own_kk p2)), .val (.long (own_me (own_n p1) (own_kk p2))), .second, .val (.long (own_me ((own_n p1) + (1 : Int32)) (own_kk p2))), .second, .unset, .unset] [(.int (own_n p1))])) _
      refine XS.iloadN X3.here hx rfl (hb hby at_56) rfl ?_
      show Steps p.tables e below (T3.setTop (mkF m 57 #[.val (.int p1), .val (.int p2), .val (.int (own_n p1)), .val (.int (own_kk p2)), .val (.long (own_me (own_n p1) (own_kk p2))), .second, .val (.long (own_me ((own_n p1) + (1 : Int32)) (own_kk p2))), .second, .unset, .unset] [(.int (own_kk p2)), (.int (own_n p1))])) _
      refine XS.icmpYes X3.here hx rfl (pc0 := 57) (pc' := 72) rfl (hb hby at_57) rfl (tlt (hc : (own_kk p2) < (own_n p1))).2.2.1 (by decide) (by decide) ?_
      show Steps p.tables e below (T3.setTop (mkF m 72 #[.val (.int p1), .val (.int p2), .val (.int (own_n p1)), .val (.int (own_kk p2)), .val (.long (own_me (own_n p1) (own_kk p2))), .second, .val (.long (own_me ((own_n p1) + (1 : Int32)) (own_kk p2))), .second, .unset, .unset] [])) _
      refine XS.iloadN X3.here hx rfl (hb hby at_72) rfl ?_
      show Steps p.tables e below (T3.setTop (mkF m 73 #[.val (.int p1), .val (.int p2), .val (.int (own_n p1)), .val (.int (own_kk p2)), .val (.long (own_me (own_n p1) (own_kk p2))), .second, .val (.long (own_me ((own_n p1) + (1 : Int32)) (own_kk p2))), .second, .unset, .unset] [(.int (own_n p1))])) _
      refine XS.i2l X3.here hx rfl (hb hby at_73) rfl ?_
      show Steps p.tables e below (T3.setTop (mkF m 74 #[.val (.int p1), .val (.int p2), .val (.int (own_n p1)), .val (.int (own_kk p2)), .val (.long (own_me (own_n p1) (own_kk p2))), .second, .val (.long (own_me ((own_n p1) + (1 : Int32)) (own_kk p2))), .second, .unset, .unset] [(.long ((own_n p1).toInt64))])) _
      refine XS.iloadN X3.here hx rfl (hb hby at_74) rfl ?_
      show Steps p.tables e below (T3.setTop (mkF m 75 #[.val (.int p1), .val (.int p2), .val (.int (own_n p1)), .val (.int (own_kk p2)), .val (.long (own_me (own_n p1) (own_kk p2))), .second, .val (.long (own_me ((own_n p1) + (1 : Int32)) (own_kk p2))), .second, .unset, .unset] [(.int (own_n p1)), (.long ((own_n p1).toInt64))])) _
      refine XS.iloadN X3.here hx rfl (hb hby at_75) rfl ?_
      show Steps p.tables e below (T3.setTop (mkF m 76 #[.val (.int p1), .val (.int p2), .val (.int (own_n p1)), .val (.int (own_kk p2)), .val (.long (own_me (own_n p1) (own_kk p2))), .second, .val (.long (own_me ((own_n p1) + (1 : Int32)) (own_kk p2))), .second, .unset, .unset] [(.int (own_kk p2)), (.int (own_n p1)), (.long ((own_n p1).toInt64))])) _
      refine XS.idiv X3.here hx rfl (hb hby at_76) rfl (own_nz p2) ?_
      show Steps p.tables e below (T3.setTop (mkF m 77 #[.val (.int p1), .val (.int p2), .val (.int (own_n p1)), .val (.int (own_kk p2)), .val (.long (own_me (own_n p1) (own_kk p2))), .second, .val (.long (own_me ((own_n p1) + (1 : Int32)) (own_kk p2))), .second, .unset, .unset] [(.int ((own_n p1) / (own_kk p2))), (.long ((own_n p1).toInt64))])) _
      refine XS.i2l X3.here hx rfl (hb hby at_77) rfl ?_
      show Steps p.tables e below (T3.setTop (mkF m 78 #[.val (.int p1), .val (.int p2), .val (.int (own_n p1)), .val (.int (own_kk p2)), .val (.long (own_me (own_n p1) (own_kk p2))), .second, .val (.long (own_me ((own_n p1) + (1 : Int32)) (own_kk p2))), .second, .unset, .unset] [(.long (((own_n p1) / (own_kk p2)).toInt64)), (.long ((own_n p1).toInt64))])) _
      refine XS.lsub X3.here hx rfl (hb hby at_78) rfl ?_
      show Steps p.tables e below (T3.setTop (mkF m 79 #[.val (.int p1), .val (.int p2), .val (.int (own_n p1)), .val (.int (own_kk p2)), .val (.long (own_me (own_n p1) (own_kk p2))), .second, .val (.long (own_me ((own_n p1) + (1 : Int32)) (own_kk p2))), .second, .unset, .unset] [(.long (((own_n p1).toInt64) - (((own_n p1) / (own_kk p2)).toInt64)))])) _
      refine XS.lstore X3.here hx rfl (hb hby at_79) rfl (l' := #[.val (.int p1), .val (.int p2), .val (.int (own_n p1)), .val (.int (own_kk p2)), .val (.long (own_me (own_n p1) (own_kk p2))), .second, .val (.long (own_me ((own_n p1) + (1 : Int32)) (own_kk p2))), .second, .val (.long (((own_n p1).toInt64) - (((own_n p1) / (own_kk p2)).toInt64))), .second]) rfl ?_
      show Steps p.tables e below (T3.setTop (mkF m 81 #[.val (.int p1), .val (.int p2), .val (.int (own_n p1)), .val (.int (own_kk p2)), .val (.long (own_me (own_n p1) (own_kk p2))), .second, .val (.long (own_me ((own_n p1) + (1 : Int32)) (own_kk p2))), .second, .val (.long (((own_n p1).toInt64) - (((own_n p1) / (own_kk p2)).toInt64))), .second] [])) _
      refine XS.lload X3.here hx rfl (hb hby at_81) rfl ?_
      show Steps p.tables e below (T3.setTop (mkF m 83 #[.val (.int p1), .val (.int p2), .val (.int (own_n p1)), .val (.int (own_kk p2)), .val (.long (own_me (own_n p1) (own_kk p2))), .second, .val (.long (own_me ((own_n p1) + (1 : Int32)) (own_kk p2))), .second, .val (.long (((own_n p1).toInt64) - (((own_n p1) / (own_kk p2)).toInt64))), .second] [(.long (own_me ((own_n p1) + (1 : Int32)) (own_kk p2)))])) _
      refine XS.lload X3.here hx rfl (hb hby at_83) rfl ?_
      show Steps p.tables e below (T3.setTop (mkF m 85 #[.val (.int p1), .val (.int p2), .val (.int (own_n p1)), .val (.int (own_kk p2)), .val (.long (own_me (own_n p1) (own_kk p2))), .second, .val (.long (own_me ((own_n p1) + (1 : Int32)) (own_kk p2))), .second, .val (.long (((own_n p1).toInt64) - (((own_n p1) / (own_kk p2)).toInt64))), .second] [(.long (own_me (own_n p1) (own_kk p2))), (.long (own_me ((own_n p1) + (1 : Int32)) (own_kk p2)))])) _
      refine XS.lload X3.here hx rfl (hb hby at_85) rfl ?_
      show Steps p.tables e below (T3.setTop (mkF m 87 #[.val (.int p1), .val (.int p2), .val (.int (own_n p1)), .val (.int (own_kk p2)), .val (.long (own_me (own_n p1) (own_kk p2))), .second, .val (.long (own_me ((own_n p1) + (1 : Int32)) (own_kk p2))), .second, .val (.long (((own_n p1).toInt64) - (((own_n p1) / (own_kk p2)).toInt64))), .second] [(.long (((own_n p1).toInt64) - (((own_n p1) / (own_kk p2)).toInt64))), (.long (own_me (own_n p1) (own_kk p2))), (.long (own_me ((own_n p1) + (1 : Int32)) (own_kk p2)))])) _
      refine XS.ladd X3.here hx rfl (hb hby at_87) rfl ?_
      show Steps p.tables e below (T3.setTop (mkF m 88 #[.val (.int p1), .val (.int p2), .val (.int (own_n p1)), .val (.int (own_kk p2)), .val (.long (own_me (own_n p1) (own_kk p2))), .second, .val (.long (own_me ((own_n p1) + (1 : Int32)) (own_kk p2))), .second, .val (.long (((own_n p1).toInt64) - (((own_n p1) / (own_kk p2)).toInt64))), .second] [(.long ((own_me (own_n p1) (own_kk p2)) + (((own_n p1).toInt64) - (((own_n p1) / (own_kk p2)).toInt64)))), (.long (own_me ((own_n p1) + (1 : Int32)) (own_kk p2)))])) _
      refine XS.lcmp X3.here hx rfl (hb hby at_88) rfl ?_
      show Steps p.tables e below (T3.setTop (mkF m 89 #[.val (.int p1), .val (.int p2), .val (.int (own_n p1)), .val (.int (own_kk p2)), .val (.long (own_me (own_n p1) (own_kk p2))), .second, .val (.long (own_me ((own_n p1) + (1 : Int32)) (own_kk p2))), .second, .val (.long (((own_n p1).toInt64) - (((own_n p1) / (own_kk p2)).toInt64))), .second] [(.int (lcmpW (own_me ((own_n p1) + (1 : Int32)) (own_kk p2)) ((own_me (own_n p1) (own_kk p2)) + (((own_n p1).toInt64) - (((own_n p1) / (own_kk p2)).toInt64)))))])) _
      refine XS.ifNo X3.here hx rfl (hb hby at_89) rfl ((if0 _ _).trans (teq (own_c4 p1 p2 : (lcmpW (own_me ((own_n p1) + (1 : Int32)) (own_kk p2)) ((own_me (own_n p1) (own_kk p2)) + (((own_n p1).toInt64) - (((own_n p1) / (own_kk p2)).toInt64)))) = (0 : Int32))).2) ?_
      show Steps p.tables e below (T3.setTop (mkF m 92 #[.val (.int p1), .val (.int p2), .val (.int (own_n p1)), .val (.int (own_kk p2)), .val (.long (own_me (own_n p1) (own_kk p2))), .second, .val (.long (own_me ((own_n p1) + (1 : Int32)) (own_kk p2))), .second, .val (.long (((own_n p1).toInt64) - (((own_n p1) / (own_kk p2)).toInt64))), .second] [])) _
      refine XS.iconst X3.here hx rfl (hb hby at_92) ?_
      show Steps p.tables e below (T3.setTop (mkF m 93 #[.val (.int p1), .val (.int p2), .val (.int (own_n p1)), .val (.int (own_kk p2)), .val (.long (own_me (own_n p1) (own_kk p2))), .second, .val (.long (own_me ((own_n p1) + (1 : Int32)) (own_kk p2))), .second, .val (.long (((own_n p1).toInt64) - (((own_n p1) / (own_kk p2)).toInt64))), .second] [(.int (1 : Int32))])) _
      refine XS.goto X3.here hx rfl (pc0 := 93) (pc' := 97) rfl (hb hby at_93) (by decide) (by decide) ?_
      show Steps p.tables e below (T3.setTop (mkF m 97 #[.val (.int p1), .val (.int p2), .val (.int (own_n p1)), .val (.int (own_kk p2)), .val (.long (own_me (own_n p1) (own_kk p2))), .second, .val (.long (own_me ((own_n p1) + (1 : Int32)) (own_kk p2))), .second, .val (.long (((own_n p1).toInt64) - (((own_n p1) / (own_kk p2)).toInt64))), .second] [(.int (1 : Int32))])) _
      exact retN X3 hx (t := .boolean) Bd.returns (by simp) (hb hby at_97) hr
    · show Qrm0 Z p1 p2  h0 n0 _ T3.heap _
      rw [e3]
      exact ⟨rfl, N3⟩
  · obtain ⟨_, _, ⟨T1, L1, k1, n1⟩, -, X1, ⟨Lc1, hQ1, l1, y1, z1⟩, st1⟩ := Jvm.LawKit.callS X0 hx (y := (⟨"com/example/entente/entente/io/Generators", "maxEdges", "(II)J"⟩ : MethodName)) hown (mvT hZ (hw _ (List.mem_of_getElem? (i := 2) rfl))) (mvT hZ (hw _ (List.mem_of_getElem? (i := 3) rfl))) (mvT hZ (hw _ (List.mem_of_getElem? (i := 4) rfl))) (mvT hZ (hw _ (List.mem_of_getElem? (i := 5) rfl))) (by decide) (backOf (W := 0) (rm1 l Z a0 hw [] (own_n p1) (own_kk p2)  h0 n0 Z0 (own_nz p2)) hZ (hw _ (List.mem_of_getElem? (i := 5) rfl)) (hw _ (List.mem_of_getElem? (i := 4) rfl)) (by decide) (by decide)) (g := (mkF m 22 #[.val (.int p1), .val (.int p2), .val (.int (own_n p1)), .val (.int (own_kk p2)), .unset, .unset, .unset, .unset, .unset, .unset] [(.int (own_kk p2)), (.int (own_n p1))])) rfl (by rw [hml]; rfl) (argsL := [(.int (own_n p1)), (.int (own_kk p2))]) (rest := []) (lenOf pd_1 rfl) rfl (by show 2 * 0 + _ ≤ _; exact Nat.le_of_eq rfl) (hb hby at_22) (fun _ _ => ⟨rfl, e0, (by decide : 0 + 0 ≤ _), (by decide : 0 + 0 ≤ _)⟩)
    dsimp only [Pt.U, Pt.locs, Pt.cells, Pt.slots] at X1 l1 y1 z1 st1 hQ1
    subst l1 y1 z1
    obtain ⟨rfl, N1q, e1⟩ := hQ1
    have N1 := Fr.app N0 N1q
    obtain ⟨_, _, ⟨T2, L2, k2, n2⟩, -, X2, ⟨Lc2, hQ2, l2, y2, z2⟩, st2⟩ := Jvm.LawKit.callS X1 hx (y := (⟨"com/example/entente/entente/io/Generators", "maxEdges", "(II)J"⟩ : MethodName)) hown (mvT hZ (hw _ (List.mem_of_getElem? (i := 2) rfl))) (mvT hZ (hw _ (List.mem_of_getElem? (i := 3) rfl))) (mvT hZ (hw _ (List.mem_of_getElem? (i := 4) rfl))) (mvT hZ (hw _ (List.mem_of_getElem? (i := 5) rfl))) (by decide) (backOf (W := 0) (rm1 l Z a0 hw [] ((own_n p1) + (1 : Int32)) (own_kk p2)  h0 n0 Z0 (own_nz p2)) hZ (hw _ (List.mem_of_getElem? (i := 5) rfl)) (hw _ (List.mem_of_getElem? (i := 4) rfl)) (by decide) (by decide)) (g := (mkF m 31 #[.val (.int p1), .val (.int p2), .val (.int (own_n p1)), .val (.int (own_kk p2)), .val (.long (own_me (own_n p1) (own_kk p2))), .second, .unset, .unset, .unset, .unset] [(.int (own_kk p2)), (.int ((own_n p1) + (1 : Int32)))])) rfl (by rw [hml]; rfl) (argsL := [(.int ((own_n p1) + (1 : Int32))), (.int (own_kk p2))]) (rest := []) (lenOf pd_1 rfl) rfl (by show 2 * 0 + _ ≤ _; exact Nat.le_of_eq rfl) (hb hby at_31) (fun _ _ => ⟨rfl, e1, (by decide : 0 + 0 ≤ _), (by decide : 0 + 0 ≤ _)⟩)
    dsimp only [Pt.U, Pt.locs, Pt.cells, Pt.slots] at X2 l2 y2 z2 st2 hQ2
    subst l2 y2 z2
    obtain ⟨rfl, N2q, e2⟩ := hQ2
    have N2 := Fr.app N1 N2q
    obtain ⟨_, _, ⟨T3, L3, k3, n3⟩, -, X3, ⟨Lc3, hQ3, l3, y3, z3⟩, st3⟩ := Jvm.LawKit.callS X2 hx (y := (⟨"com/example/entente/entente/io/GeneratorsMaxEdgesPinLaw", "allPairs", "(I)J"⟩ : MethodName)) hown (mvT hZ (hw _ (List.mem_of_getElem? (i := 10) rfl))) (mvT hZ (hw _ (List.mem_of_getElem? (i := 11) rfl))) (mvT hZ (hw _ (List.mem_of_getElem? (i := 12) rfl))) (mvT hZ (hw _ (List.mem_of_getElem? (i := 13) rfl))) (by decide) (backOf (W := 2) (rm3 l Z a0 hw [] (own_n p1)  h0 n0 Z0 ) hZ (hw _ (List.mem_of_getElem? (i := 13) rfl)) (hw _ (List.mem_of_getElem? (i := 12) rfl)) (by decide) (by decide)) (g := (mkF m 46 #[.val (.int p1), .val (.int p2), .val (.int (own_n p1)), .val (.int (own_kk p2)), .val (.long (own_me (own_n p1) (own_kk p2))), .second, .val (.long (own_me ((own_n p1) + (1 : Int32)) (own_kk p2))), .second, .unset, .unset] [(.int (own_n p1)), (.long (own_me (own_n p1) (own_kk p2)))])) rfl (by rw [hml]; rfl) (argsL := [(.int (own_n p1))]) (rest := [(.long (own_me (own_n p1) (own_kk p2)))]) (lenOf pd_2 rfl) rfl (by show 2 * 0 + _ ≤ _; exact Nat.le_of_eq rfl) (hb hby at_46) (fun _ _ => ⟨rfl, e2, (by decide : 0 + 0 ≤ _), (by decide : 0 + 0 ≤ _)⟩)
    dsimp only [Pt.U, Pt.locs, Pt.cells, Pt.slots] at X3 l3 y3 z3 st3 hQ3
    subst l3 y3 z3
    obtain ⟨rfl, N3q, e3⟩ := hQ3
    have N3 := Fr.app N2 N3q
    obtain ⟨_, _, ⟨T4, L4, k4, n4⟩, -, X4, ⟨Lc4, hQ4, l4, y4, z4⟩, st4⟩ := Jvm.LawKit.callS X3 hx (y := (⟨"com/example/entente/entente/io/GeneratorsMaxEdgesPinLaw", "allPairs", "(I)J"⟩ : MethodName)) hown (mvT hZ (hw _ (List.mem_of_getElem? (i := 10) rfl))) (mvT hZ (hw _ (List.mem_of_getElem? (i := 11) rfl))) (mvT hZ (hw _ (List.mem_of_getElem? (i := 12) rfl))) (mvT hZ (hw _ (List.mem_of_getElem? (i := 13) rfl))) (by decide) (backOf (W := 2) (rm3 l Z a0 hw [] (own_n p1)  h0 n0 Z0 ) hZ (hw _ (List.mem_of_getElem? (i := 13) rfl)) (hw _ (List.mem_of_getElem? (i := 12) rfl)) (by decide) (by decide)) (g := (mkF m 63 #[.val (.int p1), .val (.int p2), .val (.int (own_n p1)), .val (.int (own_kk p2)), .val (.long (own_me (own_n p1) (own_kk p2))), .second, .val (.long (own_me ((own_n p1) + (1 : Int32)) (own_kk p2))), .second, .unset, .unset] [(.int (own_n p1)), (.long (own_me (own_n p1) (own_kk p2)))])) rfl (by rw [hml]; rfl) (argsL := [(.int (own_n p1))]) (rest := [(.long (own_me (own_n p1) (own_kk p2)))]) (lenOf pd_2 rfl) rfl (by show 2 * 0 + _ ≤ _; exact Nat.le_of_eq rfl) (hb hby at_63) (fun _ _ => ⟨rfl, e3, (by decide : 0 + 0 ≤ _), (by decide : 0 + 0 ≤ _)⟩)
    dsimp only [Pt.U, Pt.locs, Pt.cells, Pt.slots] at X4 l4 y4 z4 st4 hQ4
    subst l4 y4 z4
    obtain ⟨rfl, N4q, e4⟩ := hQ4
    have N4 := Fr.app N3 N4q
    obtain ⟨fs, hr, hrun, hended, hW, hsame⟩ := X4.leave (v := some (.int (1 : Int32))) (fun h => by rw [Bd.returns] at h; cases h)
    refine ⟨_, _, pre0 _ ?_, hrun, hended, _, _, rfl, ?_, ⟨_, rfl⟩, hW, hsame.mono (by decide) (by decide)⟩
    · show Steps p.tables e below (s₁.setTop (mkF m 0 #[.val (.int p1), .val (.int p2), .unset, .unset, .unset, .unset, .unset, .unset, .unset, .unset] [])) _
      refine XS.iconst X0.here hx rfl (hb hby at_0) ?_
      show Steps p.tables e below (s₁.setTop (mkF m 1 #[.val (.int p1), .val (.int p2), .unset, .unset, .unset, .unset, .unset, .unset, .unset, .unset] [(.int (1 : Int32))])) _
      refine XS.iloadN X0.here hx rfl (hb hby at_1) rfl ?_
      show Steps p.tables e below (s₁.setTop (mkF m 2 #[.val (.int p1), .val (.int p2), .unset, .unset, .unset, .unset, .unset, .unset, .unset, .unset] [(.int p1), (.int (1 : Int32))])) _
      refine X0.ldcInt hx hown (mvT hZ (hw _ (List.mem_of_getElem? (i := 0) rfl))) (g := (mkF m 2 #[.val (.int p1), .val (.int p2), .unset, .unset, .unset, .unset, .unset, .unset, .unset, .unset] [(.int p1), (.int (1 : Int32))])) rfl (hb hby at_2) _ ?_
      show Steps p.tables e below (s₁.setTop (mkF m 4 #[.val (.int p1), .val (.int p2), .unset, .unset, .unset, .unset, .unset, .unset, .unset, .unset] [(.int (2147483647 : Int32)), (.int p1), (.int (1 : Int32))])) _
      refine XS.iand X0.here hx rfl (hb hby at_4) rfl ?_
      show Steps p.tables e below (s₁.setTop (mkF m 5 #[.val (.int p1), .val (.int p2), .unset, .unset, .unset, .unset, .unset, .unset, .unset, .unset] [(.int (p1 &&& (2147483647 : Int32))), (.int (1 : Int32))])) _
      refine X0.ldcInt hx hown (mvT hZ (hw _ (List.mem_of_getElem? (i := 1) rfl))) (g := (mkF m 5 #[.val (.int p1), .val (.int p2), .unset, .unset, .unset, .unset, .unset, .unset, .unset, .unset] [(.int (p1 &&& (2147483647 : Int32))), (.int (1 : Int32))])) rfl (hb hby at_5) _ ?_
      show Steps p.tables e below (s₁.setTop (mkF m 7 #[.val (.int p1), .val (.int p2), .unset, .unset, .unset, .unset, .unset, .unset, .unset, .unset] [(.int (2147483646 : Int32)), (.int (p1 &&& (2147483647 : Int32))), (.int (1 : Int32))])) _
      refine iremM X0 hx rfl (hb hby at_7) rfl (by decide) ?_
      show Steps p.tables e below (s₁.setTop (mkF m 8 #[.val (.int p1), .val (.int p2), .unset, .unset, .unset, .unset, .unset, .unset, .unset, .unset] [(.int ((p1 &&& (2147483647 : Int32)) % (2147483646 : Int32))), (.int (1 : Int32))])) _
      refine XS.iadd X0.here hx rfl (hb hby at_8) rfl ?_
      show Steps p.tables e below (s₁.setTop (mkF m 9 #[.val (.int p1), .val (.int p2), .unset, .unset, .unset, .unset, .unset, .unset, .unset, .unset] [(.int (own_n p1))])) _
      refine XS.istoreN X0.here hx rfl (hb hby at_9) rfl (l' := #[.val (.int p1), .val (.int p2), .val (.int (own_n p1)), .unset, .unset, .unset, .unset, .unset, .unset, .unset]) rfl ?_
      show Steps p.tables e below (s₁.setTop (mkF m 10 #[.val (.int p1), .val (.int p2), .val (.int (own_n p1)), .unset, .unset, .unset, .unset, .unset, .unset, .unset] [])) _
      refine XS.iconst X0.here hx rfl (hb hby at_10) ?_
      show Steps p.tables e below (s₁.setTop (mkF m 11 #[.val (.int p1), .val (.int p2), .val (.int (own_n p1)), .unset, .unset, .unset, .unset, .unset, .unset, .unset] [(.int (1 : Int32))])) _
      refine XS.iloadN X0.here hx rfl (hb hby at_11) rfl ?_
      show Steps p.tables e below (s₁.setTop (mkF m 12 #[.val (.int p1), .val (.int p2), .val (.int (own_n p1)), .unset, .unset, .unset, .unset, .unset, .unset, .unset] [(.int p2), (.int (1 : Int32))])) _
      refine X0.ldcInt hx hown (mvT hZ (hw _ (List.mem_of_getElem? (i := 0) rfl))) (g := (mkF m 12 #[.val (.int p1), .val (.int p2), .val (.int (own_n p1)), .unset, .unset, .unset, .unset, .unset, .unset, .unset] [(.int p2), (.int (1 : Int32))])) rfl (hb hby at_12) _ ?_
      show Steps p.tables e below (s₁.setTop (mkF m 14 #[.val (.int p1), .val (.int p2), .val (.int (own_n p1)), .unset, .unset, .unset, .unset, .unset, .unset, .unset] [(.int (2147483647 : Int32)), (.int p2), (.int (1 : Int32))])) _
      refine XS.iand X0.here hx rfl (hb hby at_14) rfl ?_
      show Steps p.tables e below (s₁.setTop (mkF m 15 #[.val (.int p1), .val (.int p2), .val (.int (own_n p1)), .unset, .unset, .unset, .unset, .unset, .unset, .unset] [(.int (p2 &&& (2147483647 : Int32))), (.int (1 : Int32))])) _
      refine X0.ldcInt hx hown (mvT hZ (hw _ (List.mem_of_getElem? (i := 0) rfl))) (g := (mkF m 15 #[.val (.int p1), .val (.int p2), .val (.int (own_n p1)), .unset, .unset, .unset, .unset, .unset, .unset, .unset] [(.int (p2 &&& (2147483647 : Int32))), (.int (1 : Int32))])) rfl (hb hby at_15) _ ?_
      show Steps p.tables e below (s₁.setTop (mkF m 17 #[.val (.int p1), .val (.int p2), .val (.int (own_n p1)), .unset, .unset, .unset, .unset, .unset, .unset, .unset] [(.int (2147483647 : Int32)), (.int (p2 &&& (2147483647 : Int32))), (.int (1 : Int32))])) _
      refine iremM X0 hx rfl (hb hby at_17) rfl (by decide) ?_
      show Steps p.tables e below (s₁.setTop (mkF m 18 #[.val (.int p1), .val (.int p2), .val (.int (own_n p1)), .unset, .unset, .unset, .unset, .unset, .unset, .unset] [(.int ((p2 &&& (2147483647 : Int32)) % (2147483647 : Int32))), (.int (1 : Int32))])) _
      refine XS.iadd X0.here hx rfl (hb hby at_18) rfl ?_
      show Steps p.tables e below (s₁.setTop (mkF m 19 #[.val (.int p1), .val (.int p2), .val (.int (own_n p1)), .unset, .unset, .unset, .unset, .unset, .unset, .unset] [(.int (own_kk p2))])) _
      refine XS.istoreN X0.here hx rfl (hb hby at_19) rfl (l' := #[.val (.int p1), .val (.int p2), .val (.int (own_n p1)), .val (.int (own_kk p2)), .unset, .unset, .unset, .unset, .unset, .unset]) rfl ?_
      show Steps p.tables e below (s₁.setTop (mkF m 20 #[.val (.int p1), .val (.int p2), .val (.int (own_n p1)), .val (.int (own_kk p2)), .unset, .unset, .unset, .unset, .unset, .unset] [])) _
      refine XS.iloadN X0.here hx rfl (hb hby at_20) rfl ?_
      show Steps p.tables e below (s₁.setTop (mkF m 21 #[.val (.int p1), .val (.int p2), .val (.int (own_n p1)), .val (.int (own_kk p2)), .unset, .unset, .unset, .unset, .unset, .unset] [(.int (own_n p1))])) _
      refine XS.iloadN X0.here hx rfl (hb hby at_21) rfl ?_
      show Steps p.tables e below (s₁.setTop (mkF m 22 #[.val (.int p1), .val (.int p2), .val (.int (own_n p1)), .val (.int (own_kk p2)), .unset, .unset, .unset, .unset, .unset, .unset] [(.int (own_kk p2)), (.int (own_n p1))])) _
      refine st1 _ ?_
      show Steps p.tables e below (T1.setTop (mkF m 25 #[.val (.int p1), .val (.int p2), .val (.int (own_n p1)), .val (.int (own_kk p2)), .unset, .unset, .unset, .unset, .unset, .unset] [(.long (own_me (own_n p1) (own_kk p2)))])) _
      refine XS.lstore X1.here hx rfl (hb hby at_25) rfl (l' := #[.val (.int p1), .val (.int p2), .val (.int (own_n p1)), .val (.int (own_kk p2)), .val (.long (own_me (own_n p1) (own_kk p2))), .second, .unset, .unset, .unset, .unset]) rfl ?_
      show Steps p.tables e below (T1.setTop (mkF m 27 #[.val (.int p1), .val (.int p2), .val (.int (own_n p1)), .val (.int (own_kk p2)), .val (.long (own_me (own_n p1) (own_kk p2))), .second, .unset, .unset, .unset, .unset] [])) _
      refine XS.iloadN X1.here hx rfl (hb hby at_27) rfl ?_
      show Steps p.tables e below (T1.setTop (mkF m 28 #[.val (.int p1), .val (.int p2), .val (.int (own_n p1)), .val (.int (own_kk p2)), .val (.long (own_me (own_n p1) (own_kk p2))), .second, .unset, .unset, .unset, .unset] [(.int (own_n p1))])) _
      refine XS.iconst X1.here hx rfl (hb hby at_28) ?_
      show Steps p.tables e below (T1.setTop (mkF m 29 #[.val (.int p1), .val (.int p2), .val (.int (own_n p1)), .val (.int (own_kk p2)), .val (.long (own_me (own_n p1) (own_kk p2))), .second, .unset, .unset, .unset, .unset] [(.int (1 : Int32)), (.int (own_n p1))])) _
      refine XS.iadd X1.here hx rfl (hb hby at_29) rfl ?_
      show Steps p.tables e below (T1.setTop (mkF m 30 #[.val (.int p1), .val (.int p2), .val (.int (own_n p1)), .val (.int (own_kk p2)), .val (.long (own_me (own_n p1) (own_kk p2))), .second, .unset, .unset, .unset, .unset] [(.int ((own_n p1) + (1 : Int32)))])) _
      refine XS.iloadN X1.here hx rfl (hb hby at_30) rfl ?_
      show Steps p.tables e below (T1.setTop (mkF m 31 #[.val (.int p1), .val (.int p2), .val (.int (own_n p1)), .val (.int (own_kk p2)), .val (.long (own_me (own_n p1) (own_kk p2))), .second, .unset, .unset, .unset, .unset] [(.int (own_kk p2)), (.int ((own_n p1) + (1 : Int32)))])) _
      refine st2 _ ?_
      show Steps p.tables e below (T2.setTop (mkF m 34 #[.val (.int p1), .val (.int p2), .val (.int (own_n p1)), .val (.int (own_kk p2)), .val (.long (own_me (own_n p1) (own_kk p2))), .second, .unset, .unset, .unset, .unset] [(.long (own_me ((own_n p1) + (1 : Int32)) (own_kk p2)))])) _
      refine XS.lstore X2.here hx rfl (hb hby at_34) rfl (l' := #[.val (.int p1), .val (.int p2), .val (.int (own_n p1)), .val (.int (own_kk p2)), .val (.long (own_me (own_n p1) (own_kk p2))), .second, .val (.long (own_me ((own_n p1) + (1 : Int32)) (own_kk p2))), .second, .unset, .unset]) rfl ?_
      show Steps p.tables e below (T2.setTop (mkF m 36 #[.val (.int p1), .val (.int p2), .val (.int (own_n p1)), .val (.int (own_kk p2)), .val (.long (own_me (own_n p1) (own_kk p2))), .second, .val (.long (own_me ((own_n p1) + (1 : Int32)) (own_kk p2))), .second, .unset, .unset] [])) _
      refine XS.lload X2.here hx rfl (hb hby at_36) rfl ?_
      show Steps p.tables e below (T2.setTop (mkF m 38 #[.val (.int p1), .val (.int p2), .val (.int (own_n p1)), .val (.int (own_kk p2)), .val (.long (own_me (own_n p1) (own_kk p2))), .second, .val (.long (own_me ((own_n p1) + (1 : Int32)) (own_kk p2))), .second, .unset, .unset] [(.long (own_me (own_n p1) (own_kk p2)))])) _
      refine XS.lconst X2.here hx rfl (hb hby at_38) ?_
      show Steps p.tables e below (T2.setTop (mkF m 39 #[.val (.int p1), .val (.int p2), .val (.int (own_n p1)), .val (.int (own_kk p2)), .val (.long (own_me (own_n p1) (own_kk p2))), .second, .val (.long (own_me ((own_n p1) + (1 : Int32)) (own_kk p2))), .second, .unset, .unset] [(.long (0 : Int64)), (.long (own_me (own_n p1) (own_kk p2)))])) _
      refine XS.lcmp X2.here hx rfl (hb hby at_39) rfl ?_
      show Steps p.tables e below (T2.setTop (mkF m 40 #[.val (.int p1), .val (.int p2), .val (.int (own_n p1)), .val (.int (own_kk p2)), .val (.long (own_me (own_n p1) (own_kk p2))), .second, .val (.long (own_me ((own_n p1) + (1 : Int32)) (own_kk p2))), .second, .unset, .unset] [(.int (lcmpW (own_me (own_n p1) (own_kk p2)) (0 : Int64)))])) _
      refine XS.ifNo X2.here hx rfl (hb hby at_40) rfl ((if0 _ _).trans (flt (own_c1 p1 p2 : ¬ ((lcmpW (own_me (own_n p1) (own_kk p2)) (0 : Int64)) < (0 : Int32)))).1) ?_
      show Steps p.tables e below (T2.setTop (mkF m 43 #[.val (.int p1), .val (.int p2), .val (.int (own_n p1)), .val (.int (own_kk p2)), .val (.long (own_me (own_n p1) (own_kk p2))), .second, .val (.long (own_me ((own_n p1) + (1 : Int32)) (own_kk p2))), .second, .unset, .unset] [])) _
      refine XS.lload X2.here hx rfl (hb hby at_43) rfl ?_
      show Steps p.tables e below (T2.setTop (mkF m 45 #[.val (.int p1), .val (.int p2), .val (.int (own_n p1)), .val (.int (own_kk p2)), .val (.long (own_me (own_n p1) (own_kk p2))), .second, .val (.long (own_me ((own_n p1) + (1 : Int32)) (own_kk p2))), .second, .unset, .unset] [(.long (own_me (own_n p1) (own_kk p2)))])) _
      refine XS.iloadN X2.here hx rfl (hb hby at_45) rfl ?_
      show Steps p.tables e below (T2.setTop (mkF m 46 #[.val (.int p1), .val (.int p2), .val (.int (own_n p1)), .val (.int (own_kk p2)), .val (.long (own_me (own_n p1) (own_kk p2))), .second, .val (.long (own_me ((own_n p1) + (1 : Int32)) (own_kk p2))), .second, .unset, .unset] [(.int (own_n p1)), (.long (own_me (own_n p1) (own_kk p2)))])) _
      refine st3 _ ?_
      show Steps p.tables e below (T3.setTop (mkF m 49 #[.val (.int p1), .val (.int p2), .val (.int (own_n p1)), .val (.int (own_kk p2)), .val (.long (own_me (own_n p1) (own_kk p2))), .second, .val (.long (own_me ((own_n p1) + (1 : Int32)) (own_kk p2))), .second, .unset, .unset] [(.long (own_all (own_n p1))), (.long (own_me (own_n p1) (own_kk p2)))])) _
      refine XS.lcmp X3.here hx rfl (hb hby at_49) rfl ?_
      show Steps p.tables e below (T3.setTop (mkF m 50 #[.val (.int p1), .val (.int p2), .val (.int (own_n p1)), .val (.int (own_kk p2)), .val (.long (own_me (own_n p1) (own_kk p2))), .second, .val (.long (own_me ((own_n p1) + (1 : Int32)) (own_kk p2))), .second, .unset, .unset] [(.int (lcmpW (own_me (own_n p1) (own_kk p2)) (own_all (own_n p1))))])) _
      refine XS.ifYes X3.here hx rfl (pc0 := 50) (pc' := 55) rfl (hb hby at_50) rfl ((if0 _ _).trans (flt (own_c2 p1 p2 : ¬ ((0 : Int32) < (lcmpW (own_me (own_n p1) (own_kk p2)) (own_all (own_n p1)))))).2.2.2) (by decide) (by decide) ?_
      show Steps p.tables e below (T3.setTop (mkF m 55 #[.val (.int p1), .val (.int p2), .val (.int (own_n p1)), .val (.int (own_kk p2)), .val (.long (own_me (own_n p1) (own_kk p2))), .second, .val (.long (own_me ((own_n p1) + (1 : Int32)) (own_kk p2))), .second, .unset, .unset] [])) _
      refine XS.iloadN X3.here hx rfl (hb hby at_55) rfl ?_
      show Steps p.tables e below (T3.setTop (mkF m 56 #[.val (.int p1), .val (.int p2), .val (.int (own_n p1)), .val (.int (own_kk p2)), .val (.long (own_me (own_n p1) (own_kk p2))), .second, .val (.long (own_me ((own_n p1) + (1 : Int32)) (own_kk p2))), .second, .unset, .unset] [(.int (own_n p1))])) _
      refine XS.iloadN X3.here hx rfl (hb hby at_56) rfl ?_
      show Steps p.tables e below (T3.setTop (mkF m 57 #[.val (.int p1), .val (.int p2), .val (.int (own_n p1)), .val (.int (own_kk p2)), .val (.long (own_me (own_n p1) (own_kk p2))), .second, .val (.long (own_me ((own_n p1) + (1 : Int32)) (own_kk p2))), .second, .unset, .unset] [(.int (own_kk p2)), (.int (own_n p1))])) _
      refine XS.icmpNo X3.here hx rfl (hb hby at_57) rfl (flt (hc : ¬ ((own_kk p2) < (own_n p1)))).2.2.1 ?_
      show Steps p.tables e below (T3.setTop (mkF m 60 #[.val (.int p1), .val (.int p2), .val (.int (own_n p1)), .val (.int (own_kk p2)), .val (.long (own_me (own_n p1) (own_kk p2))), .second, .val (.long (own_me ((own_n p1) + (1 : Int32)) (own_kk p2))), .second, .unset, .unset] [])) _
      refine XS.lload X3.here hx rfl (hb hby at_60) rfl ?_
      show Steps p.tables e below (T3.setTop (mkF m 62 #[.val (.int p1), .val (.int p2), .val (.int (own_n p1)), .val (.int (own_kk p2)), .val (.long (own_me (own_n p1) (own_kk p2))), .second, .val (.long (own_me ((own_n p1) + (1 : Int32)) (own_kk p2))), .second, .unset, .unset] [(.long (own_me (own_n p1) (own_kk p2)))])) _
      refine XS.iloadN X3.here hx rfl (hb hby at_62) rfl ?_
      show Steps p.tables e below (T3.setTop (mkF m 63 #[.val (.int p1), .val (.int p2), .val (.int (own_n p1)), .val (.int (own_kk p2)), .val (.long (own_me (own_n p1) (own_kk p2))), .second, .val (.long (own_me ((own_n p1) + (1 : Int32)) (own_kk p2))), .second, .unset, .unset] [(.int (own_n p1)), (.long (own_me (own_n p1) (own_kk p2)))])) _
      refine st4 _ ?_
      show Steps p.tables e below (T4.setTop (mkF m 66 #[.val (.int p1), .val (.int p2), .val (.int (own_n p1)), .val (.int (own_kk p2)), .val (.long (own_me (own_n p1) (own_kk p2))), .second, .val (.long (own_me ((own_n p1) + (1 : Int32)) (own_kk p2))), .second, .unset, .unset] [(.long (own_all (own_n p1))), (.long (own_me (own_n p1) (own_kk p2)))])) _
      refine XS.lcmp X4.here hx rfl (hb hby at_66) rfl ?_
      show Steps p.tables e below (T4.setTop (mkF m 67 #[.val (.int p1), .val (.int p2), .val (.int (own_n p1)), .val (.int (own_kk p2)), .val (.long (own_me (own_n p1) (own_kk p2))), .second, .val (.long (own_me ((own_n p1) + (1 : Int32)) (own_kk p2))), .second, .unset, .unset] [(.int (lcmpW (own_me (own_n p1) (own_kk p2)) (own_all (own_n p1))))])) _
      refine XS.ifYes X4.here hx rfl (pc0 := 67) (pc' := 72) rfl (hb hby at_67) rfl ((if0 _ _).trans (teq (own_c3 p1 p2 hc : (lcmpW (own_me (own_n p1) (own_kk p2)) (own_all (own_n p1))) = (0 : Int32))).1) (by decide) (by decide) ?_
      show Steps p.tables e below (T4.setTop (mkF m 72 #[.val (.int p1), .val (.int p2), .val (.int (own_n p1)), .val (.int (own_kk p2)), .val (.long (own_me (own_n p1) (own_kk p2))), .second, .val (.long (own_me ((own_n p1) + (1 : Int32)) (own_kk p2))), .second, .unset, .unset] [])) _
      refine XS.iloadN X4.here hx rfl (hb hby at_72) rfl ?_
      show Steps p.tables e below (T4.setTop (mkF m 73 #[.val (.int p1), .val (.int p2), .val (.int (own_n p1)), .val (.int (own_kk p2)), .val (.long (own_me (own_n p1) (own_kk p2))), .second, .val (.long (own_me ((own_n p1) + (1 : Int32)) (own_kk p2))), .second, .unset, .unset] [(.int (own_n p1))])) _
      refine XS.i2l X4.here hx rfl (hb hby at_73) rfl ?_
      show Steps p.tables e below (T4.setTop (mkF m 74 #[.val (.int p1), .val (.int p2), .val (.int (own_n p1)), .val (.int (own_kk p2)), .val (.long (own_me (own_n p1) (own_kk p2))), .second, .val (.long (own_me ((own_n p1) + (1 : Int32)) (own_kk p2))), .second, .unset, .unset] [(.long ((own_n p1).toInt64))])) _
      refine XS.iloadN X4.here hx rfl (hb hby at_74) rfl ?_
      show Steps p.tables e below (T4.setTop (mkF m 75 #[.val (.int p1), .val (.int p2), .val (.int (own_n p1)), .val (.int (own_kk p2)), .val (.long (own_me (own_n p1) (own_kk p2))), .second, .val (.long (own_me ((own_n p1) + (1 : Int32)) (own_kk p2))), .second, .unset, .unset] [(.int (own_n p1)), (.long ((own_n p1).toInt64))])) _
      refine XS.iloadN X4.here hx rfl (hb hby at_75) rfl ?_
      show Steps p.tables e below (T4.setTop (mkF m 76 #[.val (.int p1), .val (.int p2), .val (.int (own_n p1)), .val (.int (own_kk p2)), .val (.long (own_me (own_n p1) (own_kk p2))), .second, .val (.long (own_me ((own_n p1) + (1 : Int32)) (own_kk p2))), .second, .unset, .unset] [(.int (own_kk p2)), (.int (own_n p1)), (.long ((own_n p1).toInt64))])) _
      refine XS.idiv X4.here hx rfl (hb hby at_76) rfl (own_nz p2) ?_
      show Steps p.tables e below (T4.setTop (mkF m 77 #[.val (.int p1), .val (.int p2), .val (.int (own_n p1)), .val (.int (own_kk p2)), .val (.long (own_me (own_n p1) (own_kk p2))), .second, .val (.long (own_me ((own_n p1) + (1 : Int32)) (own_kk p2))), .second, .unset, .unset] [(.int ((own_n p1) / (own_kk p2))), (.long ((own_n p1).toInt64))])) _
      refine XS.i2l X4.here hx rfl (hb hby at_77) rfl ?_
      show Steps p.tables e below (T4.setTop (mkF m 78 #[.val (.int p1), .val (.int p2), .val (.int (own_n p1)), .val (.int (own_kk p2)), .val (.long (own_me (own_n p1) (own_kk p2))), .second, .val (.long (own_me ((own_n p1) + (1 : Int32)) (own_kk p2))), .second, .unset, .unset] [(.long (((own_n p1) / (own_kk p2)).toInt64)), (.long ((own_n p1).toInt64))])) _
      refine XS.lsub X4.here hx rfl (hb hby at_78) rfl ?_
      show Steps p.tables e below (T4.setTop (mkF m 79 #[.val (.int p1), .val (.int p2), .val (.int (own_n p1)), .val (.int (own_kk p2)), .val (.long (own_me (own_n p1) (own_kk p2))), .second, .val (.long (own_me ((own_n p1) + (1 : Int32)) (own_kk p2))), .second, .unset, .unset] [(.long (((own_n p1).toInt64) - (((own_n p1) / (own_kk p2)).toInt64)))])) _
      refine XS.lstore X4.here hx rfl (hb hby at_79) rfl (l' := #[.val (.int p1), .val (.int p2), .val (.int (own_n p1)), .val (.int (own_kk p2)), .val (.long (own_me (own_n p1) (own_kk p2))), .second, .val (.long (own_me ((own_n p1) + (1 : Int32)) (own_kk p2))), .second, .val (.long (((own_n p1).toInt64) - (((own_n p1) / (own_kk p2)).toInt64))), .second]) rfl ?_
      show Steps p.tables e below (T4.setTop (mkF m 81 #[.val (.int p1), .val (.int p2), .val (.int (own_n p1)), .val (.int (own_kk p2)), .val (.long (own_me (own_n p1) (own_kk p2))), .second, .val (.long (own_me ((own_n p1) + (1 : Int32)) (own_kk p2))), .second, .val (.long (((own_n p1).toInt64) - (((own_n p1) / (own_kk p2)).toInt64))), .second] [])) _
      refine XS.lload X4.here hx rfl (hb hby at_81) rfl ?_
      show Steps p.tables e below (T4.setTop (mkF m 83 #[.val (.int p1), .val (.int p2), .val (.int (own_n p1)), .val (.int (own_kk p2)), .val (.long (own_me (own_n p1) (own_kk p2))), .second, .val (.long (own_me ((own_n p1) + (1 : Int32)) (own_kk p2))), .second, .val (.long (((own_n p1).toInt64) - (((own_n p1) / (own_kk p2)).toInt64))), .second] [(.long (own_me ((own_n p1) + (1 : Int32)) (own_kk p2)))])) _
      refine XS.lload X4.here hx rfl (hb hby at_83) rfl ?_
      show Steps p.tables e below (T4.setTop (mkF m 85 #[.val (.int p1), .val (.int p2), .val (.int (own_n p1)), .val (.int (own_kk p2)), .val (.long (own_me (own_n p1) (own_kk p2))), .second, .val (.long (own_me ((own_n p1) + (1 : Int32)) (own_kk p2))), .second, .val (.long (((own_n p1).toInt64) - (((own_n p1) / (own_kk p2)).toInt64))), .second] [(.long (own_me (own_n p1) (own_kk p2))), (.long (own_me ((own_n p1) + (1 : Int32)) (own_kk p2)))])) _
      refine XS.lload X4.here hx rfl (hb hby at_85) rfl ?_
      show Steps p.tables e below (T4.setTop (mkF m 87 #[.val (.int p1), .val (.int p2), .val (.int (own_n p1)), .val (.int (own_kk p2)), .val (.long (own_me (own_n p1) (own_kk p2))), .second, .val (.long (own_me ((own_n p1) + (1 : Int32)) (own_kk p2))), .second, .val (.long (((own_n p1).toInt64) - (((own_n p1) / (own_kk p2)).toInt64))), .second] [(.long (((own_n p1).toInt64) - (((own_n p1) / (own_kk p2)).toInt64))), (.long (own_me (own_n p1) (own_kk p2))), (.long (own_me ((own_n p1) + (1 : Int32)) (own_kk p2)))])) _
      refine XS.ladd X4.here hx rfl (hb hby at_87) rfl ?_
      show Steps p.tables e below (T4.setTop (mkF m 88 #[.val (.int p1), .val (.int p2), .val (.int (own_n p1)), .val (.int (own_kk p2)), .val (.long (own_me (own_n p1) (own_kk p2))), .second, .val (.long (own_me ((own_n p1) + (1 : Int32)) (own_kk p2))), .second, .val (.long (((own_n p1).toInt64) - (((own_n p1) / (own_kk p2)).toInt64))), .second] [(.long ((own_me (own_n p1) (own_kk p2)) + (((own_n p1).toInt64) - (((own_n p1) / (own_kk p2)).toInt64)))), (.long (own_me ((own_n p1) + (1 : Int32)) (own_kk p2)))])) _
      refine XS.lcmp X4.here hx rfl (hb hby at_88) rfl ?_
      show Steps p.tables e below (T4.setTop (mkF m 89 #[.val (.int p1), .val (.int p2), .val (.int (own_n p1)), .val (.int (own_kk p2)), .val (.long (own_me (own_n p1) (own_kk p2))), .second, .val (.long (own_me ((own_n p1) + (1 : Int32)) (own_kk p2))), .second, .val (.long (((own_n p1).toInt64) - (((own_n p1) / (own_kk p2)).toInt64))), .second] [(.int (lcmpW (own_me ((own_n p1) + (1 : Int32)) (own_kk p2)) ((own_me (own_n p1) (own_kk p2)) + (((own_n p1).toInt64) - (((own_n p1) / (own_kk p2)).toInt64)))))])) _
      refine XS.ifNo X4.here hx rfl (hb hby at_89) rfl ((if0 _ _).trans (teq (own_c4 p1 p2 : (lcmpW (own_me ((own_n p1) + (1 : Int32)) (own_kk p2)) ((own_me (own_n p1) (own_kk p2)) + (((own_n p1).toInt64) - (((own_n p1) / (own_kk p2)).toInt64)))) = (0 : Int32))).2) ?_
      show Steps p.tables e below (T4.setTop (mkF m 92 #[.val (.int p1), .val (.int p2), .val (.int (own_n p1)), .val (.int (own_kk p2)), .val (.long (own_me (own_n p1) (own_kk p2))), .second, .val (.long (own_me ((own_n p1) + (1 : Int32)) (own_kk p2))), .second, .val (.long (((own_n p1).toInt64) - (((own_n p1) / (own_kk p2)).toInt64))), .second] [])) _
      refine XS.iconst X4.here hx rfl (hb hby at_92) ?_
      show Steps p.tables e below (T4.setTop (mkF m 93 #[.val (.int p1), .val (.int p2), .val (.int (own_n p1)), .val (.int (own_kk p2)), .val (.long (own_me (own_n p1) (own_kk p2))), .second, .val (.long (own_me ((own_n p1) + (1 : Int32)) (own_kk p2))), .second, .val (.long (((own_n p1).toInt64) - (((own_n p1) / (own_kk p2)).toInt64))), .second] [(.int (1 : Int32))])) _
      refine XS.goto X4.here hx rfl (pc0 := 93) (pc' := 97) rfl (hb hby at_93) (by decide) (by decide) ?_
      show Steps p.tables e below (T4.setTop (mkF m 97 #[.val (.int p1), .val (.int p2), .val (.int (own_n p1)), .val (.int (own_kk p2)), .val (.long (own_me (own_n p1) (own_kk p2))), .second, .val (.long (own_me ((own_n p1) + (1 : Int32)) (own_kk p2))), .second, .val (.long (((own_n p1).toInt64) - (((own_n p1) / (own_kk p2)).toInt64))), .second] [(.int (1 : Int32))])) _
      exact retN X4 hx (t := .boolean) Bd.returns (by simp) (hb hby at_97) hr
    · show Qrm0 Z p1 p2  h0 n0 _ T4.heap _
      rw [e4]
      exact ⟨rfl, N4⟩
set_option maxRecDepth 65536 in
set_option maxHeartbeats 40000000 in
theorem comes_1 {Post : Tables → Env → Array Value → State → Outcome → State → Prop} (hpost : ∀ tb e args s v u, (limb_1_1.after args s (.returned v) u = true ∧ limb_1_2.after args s (.returned v) u = true ∧ True) → FrameEnd s (.returned v) u (Jvm.fieldLocs frame_1_writes args s ++ Jvm.arrayLocs frame_1_arrays args s ++ Jvm.staticLocs frame_1_statics s) 0 0 → Post tb e args s (.returned v) u) :
    ArmFor flags0 classFile x code maxLocals ret World_1 tables_1 room_1 Calls_1 rest_1 Pre_1 Post := by
  intro l hfl _ _ p e ha hc hk s m args below hf hA hF happ hP
  obtain ⟨hcalls, hrest, hpre⟩ := hP
  obtain ⟨-, -, -, hnamed, -, -, -, hat⟩ := (Spec.applies_iff hf).mp happ
  obtain ⟨hg, hn⟩ := and_e (Cond.before_iff.mp (show (Jvm.Cond.and given_1 narrow_1).before args s = true from hpre))
  obtain ⟨gv1, gv2⟩ := and_e hg
  obtain ⟨gv3, gv4⟩ := and_e gv2
  obtain ⟨w0, w1, rfl⟩ : ∃ w0 w1 : Value, args = #[w0, w1] := by
    have hs : args.size = 2 := by simpa [Cond.value, given_1] using gv1
    obtain ⟨L⟩ := args
    match L, hs with
    | [w0, w1], _ => exact ⟨w0, w1, rfl⟩
  have hw := fun d (hd : d ∈ tables_1) => atoms_spec (ws := Jvm.Cond.code x code maxLocals ret :: tables_1) hat d (List.mem_cons_of_mem _ hd)
  have hfit : Fit s := fun {y c} hc i hi => by
    obtain ⟨ha, rfl⟩ := Array.getElem?_eq_some_iff.mp hc
    have q := List.all_eq_true.mp ((Array.all_eq_true_iff_forall_mem.mp hF) _ (Array.getElem_mem ha)) i (List.mem_range.mpr hi)
    simpa [Array.getElem?_eq_getElem hi] using q
  obtain ⟨i0, ei0⟩ := is_v gv3
  obtain rfl : w0 = (.int i0) := Option.some.inj ei0
  obtain ⟨i1, ei1⟩ := is_v gv4
  obtain rfl : w1 = (.int i1) := Option.some.inj ei1
  obtain ⟨n, o, h1, h2, h3, _, L, rfl, ⟨rfl, N⟩, hq⟩ := rm0 l s _ hw tables_1 i0 i1  s.heap s.heap.size (Nat.le_refl _)  p e ha hc hk s m _ below hf ((Spec.applies_iff_loose hf).mp happ).1 ⟨rfl, State.Warmed39.refl s, rfl⟩ trivial
  refine ⟨n, _, h1, h2, h3, hpost _ _ _ _ _ _ ⟨Cond.after_iff.mpr rfl, Cond.after_iff.mpr (eq_i res_at (Term.int_eval (1)) rfl), trivial⟩ ⟨hq.1, hq.2.1, (hq.2.2.sift fun y hy => Or.inr (N y hy)).mono (by decide) (by decide)⟩⟩
theorem main_1_1 : Claimed_1_1 := comes_1 fun _ _ _ _ _ _ h hF => ⟨h.1, hF⟩
theorem main_1_2 : Claimed_1_2 := comes_1 fun _ _ _ _ _ _ h hF => ⟨h.2.1, hF⟩
end Jvm.Pilot.@@N@@
namespace Jvm.Pilot.@@N@@
open Jvm Jvm.ClassFile Sem Op Lib Jvm.Free Jvm.Stand Jvm.Pilot.@@N@@.Jvm.D
/-! MADE BY PROGRAM (witnessworld.py) out of the Statement's table words and the real class files: 9 classes; the members and pool entries that the words name. The judged class is class 1, her method 2. -/
namespace start1
open Jvm.ClassFile
def u (s : String) : CpInfo := .utf8 (stringToUtf16 s)
/-- a pool by its gaps: so many unusable entries, then the entry; so many at the end -/
def gap : Nat → List CpInfo → List CpInfo
  | 0, r => r
  | n + 1, r => .unusable :: gap n r
def poolList (es : List (Nat × CpInfo)) (last : Nat) : List CpInfo := es.foldr (fun e r => gap e.1 (e.2 :: r)) (gap last [])
def pool (es : List (Nat × CpInfo)) (last : Nat) : Array CpInfo := ⟨poolList es last⟩
def fileOf (pool : Array CpInfo) (this : Nat) (attrs : Array Attribute := #[]) (ms : Array MethodInfo := #[]) (fl : Nat := 33) (sup : Nat := 0) (ifs : Array Nat := #[]) (fds : Array FieldInfo := #[]) : ClassFile where
  minorVersion := 0
  majorVersion := 65
  constantPool := pool
  accessFlags := fl
  thisClass := this
  superClass := sup
  interfaces := ifs
  fields := fds
  methods := ms
  attributes := attrs
def plain (name : String) (sup : Option ClassId) : Class where
  name := name
  kind := .ordinary
  loader := none
  accessFlags := 33
  super := sup
  interfaces := #[]
  cf := none
  fields := #[]
  methods := #[]
  instanceTypes := #[]
  staticTypes := #[]
  resolved := #[]
  callSites := []
  init := .initialized
  statics := none
  mirror := none

def pool0 : Array CpInfo := pool [(5, u "<init>"), (0, u "()V"), (1, .class_ 10), (1, u "java/lang/Object")] 113

def k0m0 : Method := { name := "<init>", desc := "()V", sig := { parameters := [], returnType := none }, accessFlags := 1, code := none }
/-- java/lang/Object -/
def k0 : Class := { plain "java/lang/Object" none with
  accessFlags := 33
  interfaces := #[]
  cf := some (fileOf pool0 8 #[] #[{ accessFlags := 1, nameIndex := 5, descriptorIndex := 6, attributes := #[] }] 33 0 #[] #[])
  fields := #[]
  methods := #[k0m0]
  instanceTypes := #[]
  staticTypes := #[]
  resolved := Array.replicate 124 none
  statics := none }

def pool1 : Array CpInfo := pool [(2, .class_ 4), (1, u "java/lang/Object"), (0, u "<init>"), (0, u "()V"), (0, .long 2), (1, .integer 2147483647), (0, .integer 2147483646), (0, .methodref 12 13), (0, .class_ 14), (0, .nameAndType 15 16), (0, u "com/example/entente/entente/io/Generators"), (0, u "maxEdges"), (0, u "(II)J"), (0, .methodref 18 19), (0, .class_ 20), (0, .nameAndType 21 22), (0, u "com/example/entente/entente/io/GeneratorsMaxEdgesPinLaw"), (0, u "allPairs"), (0, u "(I)J"), (2, u "law"), (0, u "(II)Z")] 3

def k1m0 : Method := { name := "<init>", desc := "()V", sig := { parameters := [], returnType := none }, accessFlags := 2, code := none }
def k1c1 : Code := { maxStack := 4, maxLocals := 1, code := method_2_code, exceptionTable := #[], attributes := #[] }
def k1m1 : Method := { name := "allPairs", desc := "(I)J", sig := { parameters := [.int], returnType := some .long }, accessFlags := 10, code := some k1c1 }
def k1c2 : Code := { maxStack := 6, maxLocals := 10, code := code, exceptionTable := #[], attributes := #[] }
def k1m2 : Method := { name := "law", desc := "(II)Z", sig := { parameters := [.int, .int], returnType := some .boolean }, accessFlags := 9, code := some k1c2 }
/-- com/example/entente/entente/io/GeneratorsMaxEdgesPinLaw -/
def k1 : Class := { plain "com/example/entente/entente/io/GeneratorsMaxEdgesPinLaw" (some 0) with
  accessFlags := 49
  interfaces := #[]
  cf := some (fileOf pool1 18 #[] #[{ accessFlags := 2, nameIndex := 5, descriptorIndex := 6, attributes := #[] }, { accessFlags := 10, nameIndex := 21, descriptorIndex := 22, attributes := #[] }, { accessFlags := 9, nameIndex := 25, descriptorIndex := 26, attributes := #[] }] 49 2 #[] #[])
  fields := #[]
  methods := #[k1m0, k1m1, k1m2]
  instanceTypes := #[]
  staticTypes := #[]
  resolved := Array.replicate 30 none
  statics := none }

def pool2 : Array CpInfo := pool [(2, .class_ 4), (1, u "java/lang/Object"), (0, u "<init>"), (0, u "()V"), (2, .class_ 10), (0, u "com/example/entente/entente/io/Generators"), (54, .class_ 66), (0, u "com/example/entente/entente/io/Generators$Setting"), (73, .long 2), (67, u "maxEdges"), (0, u "(II)J"), (7, .methodref 9 218), (0, .nameAndType 219 220), (0, u "pairs"), (0, u "(J)J"), (104, .class_ 326), (0, u "com/example/entente/entente/io/Generators$Planted"), (19, u "MAX_SIZE"), (0, u "I")] 80

def k2m0 : Method := { name := "<init>", desc := "()V", sig := { parameters := [], returnType := none }, accessFlags := 2, code := none }
def k2c1 : Code := { maxStack := 8, maxLocals := 6, code := prog_68_method_7_code, exceptionTable := #[], attributes := #[] }
def k2m1 : Method := { name := "maxEdges", desc := "(II)J", sig := { parameters := [.int, .int], returnType := some .long }, accessFlags := 9, code := some k2c1 }
def k2c2 : Code := { maxStack := 6, maxLocals := 2, code := prog_68_method_8_code, exceptionTable := #[], attributes := #[] }
def k2m2 : Method := { name := "pairs", desc := "(J)J", sig := { parameters := [.long], returnType := some .long }, accessFlags := 10, code := some k2c2 }
/-- com/example/entente/entente/io/Generators -/
def k2 : Class := { plain "com/example/entente/entente/io/Generators" (some 0) with
  accessFlags := 49
  interfaces := #[]
  cf := some (fileOf pool2 9 #[.nestMembers #[325, 65]] #[{ accessFlags := 2, nameIndex := 5, descriptorIndex := 6, attributes := #[] }, { accessFlags := 9, nameIndex := 208, descriptorIndex := 209, attributes := #[] }, { accessFlags := 10, nameIndex := 219, descriptorIndex := 220, attributes := #[] }] 49 2 #[] #[{ accessFlags := 25, nameIndex := 346, descriptorIndex := 347, attributes := #[] }])
  fields := #[{ name := "MAX_SIZE", type := .int, accessFlags := 25, slot := 0, constantValue := 0 }]
  methods := #[k2m0, k2m1, k2m2]
  instanceTypes := #[]
  staticTypes := #[.int]
  resolved := Array.replicate 428 none
  statics := none }

def pool3 : Array CpInfo := pool [(1, u "java/lang/Cloneable"), (0, .class_ 1), (0, u "java/lang/Object"), (0, .class_ 3)] 3

/-- java/lang/Cloneable -/
def k3 : Class := { plain "java/lang/Cloneable" (some 0) with
  accessFlags := 1537
  interfaces := #[]
  cf := some (fileOf pool3 2 #[] #[] 1537 4 #[] #[])
  fields := #[]
  methods := #[]
  instanceTypes := #[]
  staticTypes := #[]
  resolved := Array.replicate 8 none
  statics := none }

def pool4 : Array CpInfo := pool [(1, u "java/io/Serializable"), (0, .class_ 1), (0, u "java/lang/Object"), (0, .class_ 3)] 3

/-- java/io/Serializable -/
def k4 : Class := { plain "java/io/Serializable" (some 0) with
  accessFlags := 1537
  interfaces := #[]
  cf := some (fileOf pool4 2 #[] #[] 1537 4 #[] #[])
  fields := #[]
  methods := #[]
  instanceTypes := #[]
  staticTypes := #[]
  resolved := Array.replicate 8 none
  statics := none }

/-- the primitive byte -/
def k5 : Class := { plain "byte" none with kind := .primitive 'B', accessFlags := 0x411 }
/-- [B -/
def k6 : Class := { plain "[B" (some 0) with kind := .array 5 .byte, interfaces := #[3, 4], accessFlags := 1041 }

/-- the primitive int -/
def k7 : Class := { plain "int" none with kind := .primitive 'I', accessFlags := 0x411 }
/-- [I -/
def k8 : Class := { plain "[I" (some 0) with kind := .array 7 .int, interfaces := #[3, 4], accessFlags := 1041 }

def heap : Heap := #[]
def classes : Array Class := #[k0, k1, k2, k3, k4, k5, k6, k7, k8]
def interned : List (Array UInt16 × Addr) := []
def slotsUsed : Nat := 0
def theMethod : MethodId := ⟨1, 2⟩
def args0 : Array Value := #[.int 5, .int 7]
def aboutOver (below : List Frame) : State where
  vm := { classes := classes, interned := interned.toArray }
  heap := heap
  slotsUsed := slotsUsed
  threads := #[{ frames := .invoking theMethod args0 :: below }]
def below0 : List Frame := [.native { method := ⟨0, 0⟩, args := #[] }]
def about1 : State := aboutOver below0
def p0 : Program := .bare "" "" ""
def e0 : Env := launch0.env 0 0 0
theorem w_frames : about1.frames = Frame.invoking theMethod args0 :: below0 := rfl
set_option maxRecDepth 65536 in
theorem w_args : argsFit about1.vm theMethod args0 = true := by decide +kernel
set_option maxRecDepth 65536 in
theorem w_heap : heapFits about1 = true := by decide +kernel
set_option maxRecDepth 65536 in
theorem w_runnable : about1.curStatus? = some .runnable := by decide +kernel
set_option maxRecDepth 65536 in
theorem w_alone : about1.alone = true := by decide +kernel
set_option maxRecDepth 65536 in
theorem w_named : about1.methodNamed? x = some theMethod := by decide +kernel
set_option maxRecDepth 65536 in
theorem w_hears : about1.hears theMethod below0 = true := by decide +kernel
set_option maxRecDepth 65536 in
theorem w_ripe : about1.ripe theMethod args0 below0 = true := by decide +kernel
theorem w_running : about1.status = .running := rfl
set_option maxRecDepth 65536 in
theorem w_room : about1.hasRoom e0.platform room_1 = true :=
  launch0.hasRoom_least _ room_1 (by decide +kernel) (by decide +kernel) (by decide +kernel) (by decide +kernel) (by decide +kernel) (by decide +kernel)
theorem allAtoms_all (ts : List Jvm.Cond) (a : Array Jvm.Value) (st : Jvm.State) : (allAtoms ts).before a st = ts.all (fun c => c.before a st) := by
  induction ts with
  | nil => rfl
  | cons c t ih =>
    show (Jvm.Cond.and c (allAtoms t)).before a st = _
    rw [Jvm.Cond.before_and, ih, List.all_cons]
def words1 : List Jvm.Cond := Jvm.Cond.code x code maxLocals ret :: tables_1
/-- a 'code' word, met by the world's own term for the bytes: nothing is compared byte by byte -/
theorem code_word {y : MethodName} {bytes : ByteArray} {mx : Nat} {rt : Option FieldType} {a : Array Value} {s : State} {m : MethodId} {meth : Method} {c : Code} (h1 : s.methodNamed? y = some m) (h2 : s.vm.method? m = some meth) (h3 : meth.code = some c) (h4 : c.code = bytes)
    (h5 : (c.maxLocals == mx && c.exceptionTable.isEmpty && decide (c.maxStack ≤ mostOperands) && decide (meth.sig.returnType = rt) && !meth.locks && decide (parseMethodDescriptor y.desc = some meth.sig)) = true) : (Jvm.Cond.code y bytes mx rt).before a s = true := by
  simp only [Bool.and_eq_true, beq_iff_eq, Bool.not_eq_true', decide_eq_true_eq] at h5
  obtain ⟨⟨⟨⟨⟨g1, g2⟩, g3⟩, g4⟩, g5⟩, g6⟩ := h5
  simp [Cond.before, Cond.holds, Cond.value, h1, h2, h3, h4, g1, g2, g3, g4, g5, g6]
def isCode : Jvm.Cond → Bool
  | .code _ _ _ _ => true
  | _ => false
theorem all_split {L : List Jvm.Cond} {P : Jvm.Cond → Bool} (h1 : L.all (fun c => isCode c || P c) = true) (h2 : ∀ c ∈ L.filter isCode, P c = true) : L.all P = true := by
  refine List.all_eq_true.mpr fun c hc => ?_
  have h := List.all_eq_true.mp h1 c hc
  rcases Bool.eq_false_or_eq_true (isCode c) with hi | hi
  · exact h2 c (List.mem_filter.mpr ⟨hc, hi⟩)
  · simpa [hi] using h
set_option maxRecDepth 65536 in
theorem w_c0 : (Jvm.Cond.code x code maxLocals ret).before args0 about1 = true := code_word (m := ⟨1, 2⟩) (meth := k1m2) (c := k1c2) (by decide +kernel) rfl rfl rfl (by decide +kernel)
set_option maxRecDepth 65536 in
theorem w_c1 : (Jvm.Cond.code ({ cls := "com/example/entente/entente/io/Generators", name := "maxEdges", desc := "(II)J" } : Jvm.MethodName) prog_68_method_7_code (6 : Nat) (Option.some Jvm.ClassFile.FieldType.long)).before args0 about1 = true := code_word (m := ⟨2, 1⟩) (meth := k2m1) (c := k2c1) (by decide +kernel) rfl rfl rfl (by decide +kernel)
set_option maxRecDepth 65536 in
theorem w_c2 : (Jvm.Cond.code ({ cls := "com/example/entente/entente/io/Generators", name := "pairs", desc := "(J)J" } : Jvm.MethodName) prog_68_method_8_code (2 : Nat) (Option.some Jvm.ClassFile.FieldType.long)).before args0 about1 = true := code_word (m := ⟨2, 2⟩) (meth := k2m2) (c := k2c2) (by decide +kernel) rfl rfl rfl (by decide +kernel)
set_option maxRecDepth 65536 in
theorem w_c3 : (Jvm.Cond.code ({ cls := "com/example/entente/entente/io/GeneratorsMaxEdgesPinLaw", name := "allPairs", desc := "(I)J" } : Jvm.MethodName) method_2_code (1 : Nat) (Option.some Jvm.ClassFile.FieldType.long)).before args0 about1 = true := code_word (m := ⟨1, 1⟩) (meth := k1m1) (c := k1c1) (by decide +kernel) rfl rfl rfl (by decide +kernel)
def codes1 : List Jvm.Cond := [Jvm.Cond.code x code maxLocals ret, Jvm.Cond.code ({ cls := "com/example/entente/entente/io/Generators", name := "maxEdges", desc := "(II)J" } : Jvm.MethodName) prog_68_method_7_code (6 : Nat) (Option.some Jvm.ClassFile.FieldType.long), Jvm.Cond.code ({ cls := "com/example/entente/entente/io/Generators", name := "pairs", desc := "(J)J" } : Jvm.MethodName) prog_68_method_8_code (2 : Nat) (Option.some Jvm.ClassFile.FieldType.long), Jvm.Cond.code ({ cls := "com/example/entente/entente/io/GeneratorsMaxEdgesPinLaw", name := "allPairs", desc := "(I)J" } : Jvm.MethodName) method_2_code (1 : Nat) (Option.some Jvm.ClassFile.FieldType.long)]
set_option maxRecDepth 65536 in
theorem codes_eq : words1.filter isCode = codes1 := rfl
theorem w_codes : ∀ c ∈ words1.filter isCode, c.before args0 about1 = true := by
  rw [codes_eq]
  intro c hc
  simp only [codes1, List.mem_cons, List.not_mem_nil, or_false] at hc
  rcases hc with rfl | rfl | rfl | rfl
  · exact w_c0
  · exact w_c1
  · exact w_c2
  · exact w_c3
set_option maxRecDepth 65536 in
theorem w_t1 : words1.all (fun c => isCode c || c.before args0 about1) = true := by decide +kernel
theorem w_tables : (allAtoms (Jvm.Cond.code x code maxLocals ret :: tables_1)).before args0 about1 = true := by
  rw [allAtoms_all]
  show words1.all (fun c => c.before args0 about1) = true
  refine all_split ?_ w_codes
  rw [w_t1]
set_option maxRecDepth 65536 in
theorem w_case : (Jvm.Cond.and given_1 narrow_1).before args0 about1 = true := by decide +kernel
theorem w_applies : (headSpec (Jvm.Cond.code x code maxLocals ret :: tables_1) room_1).applies x e0.platform about1 = true :=
  (Spec.applies_iff w_frames).mpr ⟨w_running, w_runnable, w_alone, w_named, w_hears, w_ripe, w_room, w_tables⟩
theorem atStart : AtStart classFile x code maxLocals ret World_1 tables_1 room_1 Calls_1 rest_1 Pre_1 launch0 p0 e0 about1 theMethod args0 below0 :=
  ⟨lists_1, trivial, launch0.admits_env _ _ _, launch0.least_env, fairChoices_fair.cas, fairChoices_fair.clock, w_frames, w_args, w_heap, w_applies, trivial, trivial, w_case⟩
end start1
theorem witness_1 : WitnessClaimed_1 := ⟨start1.p0, start1.e0, start1.about1, start1.theMethod, start1.args0, start1.below0, start1.atStart⟩
end Jvm.Pilot.@@N@@
