import Derived.Test.Qxb6615730aOnes
namespace Go.Proofs.Qxb6615730a
open Go.RowKit

theorem pc_even (i : Nat) (hi : i < 9223372036854775808) : pc (2 * i) = pc i := by
  have h : pc (2 * i) = 2 * i % 2 + pcF 63 (2 * i / 2) := rfl
  rw [h, show 2 * i % 2 = 0 by omega, show 2 * i / 2 = i by omega, Nat.zero_add]
  exact (pcF_stable (m := 63) (k := 1) (n := i) hi).symm
theorem pc_odd (i : Nat) (hi : i < 9223372036854775808) : pc (2 * i + 1) = pc i + 1 := by
  have h : pc (2 * i + 1) = (2 * i + 1) % 2 + pcF 63 ((2 * i + 1) / 2) := rfl
  have st : pcF 63 i = pc i := (pcF_stable (m := 63) (k := 1) (n := i) hi).symm
  rw [h, show (2 * i + 1) % 2 = 1 by omega, show (2 * i + 1) / 2 = i by omega, Nat.add_comm 1, st]
theorem pc_zero : pc 0 = 0 := pcF_zero 64

/-- From the test to the bound. -/
theorem fits_of (l i : Nat) (h : (i : Int) < 144115188075855872 / 2 ^ l) : (i + 1) * 2 ^ l ≤ 144115188075855872 := by
  have h2 : i < 144115188075855872 / 2 ^ l := by
    have : ((144115188075855872 / 2 ^ l : Nat) : Int) = 144115188075855872 / 2 ^ l := by rw [Int.natCast_ediv, Int.natCast_pow]; rfl
    omega
  have h3 : (i + 1) * 2 ^ l ≤ 144115188075855872 / 2 ^ l * 2 ^ l := Nat.mul_le_mul_right _ (by omega)
  exact Nat.le_trans h3 (Nat.div_mul_le_self _ _)

/-- The plain law: a subtree and its children. -/
theorem follow_law (k i : Nat) (hi : (i + 1) * 2 ^ (k + 1) ≤ 144115188075855872) :
    posN (k + 1) i = posN k (2 * i + 1) + 1 ∧ posN (k + 1) i = posN k (2 * i) + 2 ^ (k + 1) ∧ posN (k + 1) 0 = 2 ^ (k + 1 + 1) - 2 ∧ 2 ^ (k + 1) ≤ 144115188075855872 ∧ posN (k + 1) i ≤ 288230376151711744 ∧ (2 * i + 1 + 1) * 2 ^ k ≤ 144115188075855872 ∧ (2 * i + 1) * 2 ^ k ≤ 144115188075855872 ∧ i < 144115188075855872 := by
  have hp : 0 < 2 ^ k := Nat.two_pow_pos k
  have e1 : (2 * i + 1 + 1) * 2 ^ k = (i + 1) * 2 ^ (k + 1) := by rw [Nat.pow_succ, show 2 * i + 1 + 1 = (i + 1) * 2 by omega, Nat.mul_assoc, Nat.mul_comm 2]
  have e2 : (2 * i + 1) * 2 ^ k + 2 ^ k = (2 * i + 1 + 1) * 2 ^ k := by rw [Nat.add_mul (2 * i + 1) 1]; omega
  have hle : i + 1 ≤ (i + 1) * 2 ^ (k + 1) := Nat.le_mul_of_pos_right _ (Nat.two_pow_pos _)
  have hpi : pc i ≤ i := pcF_le_self 64 i
  have po := pc_odd i (by omega)
  have pe := pc_even i (by omega)
  have hT : 2 ^ (k + 1) ≤ (i + 1) * 2 ^ (k + 1) := Nat.le_mul_of_pos_left _ (by omega)
  have hT2 : 2 ^ (k + 1) = 2 ^ k + 2 ^ k := by rw [Nat.pow_succ]; omega
  have hT3 : 2 ^ (k + 1 + 1) = 2 ^ (k + 1) + 2 ^ (k + 1) := by rw [Nat.pow_succ 2 (k + 1)]; omega
  unfold posN
  rw [po, pe, pc_zero, e1]
  generalize (i + 1) * 2 ^ (k + 1) = L at *
  generalize hM : (2 * i + 1) * 2 ^ k = M at *
  rw [hT3, Nat.zero_add, Nat.one_mul]
  generalize 2 ^ (k + 1) = T at *
  generalize 2 ^ k = U at *
  have hM2 : 2 * i + 1 ≤ M := by rw [← hM]; exact Nat.le_mul_of_pos_right _ hp
  refine ⟨by omega, by omega, by omega, by omega, by omega, by omega, by omega, by omega⟩

set_option maxHeartbeats 800000 in
theorem follows_any (l i : Nat) (w : World) :
    Calls Try.prog 4 #[.int .u64 l, .int .u64 i] w fun e w' => e = .returned (.bool true) ∧ Below w.heap.size w w' := by
  by_cases c1 : (l : Int) < 1
  · go_enter Try.func4, Try.ntmps4
    go_wp2
    go_ret
    exact ⟨rfl, Below.refl _ _⟩
  by_cases c2 : (57 : Int) < (l : Int)
  · go_enter Try.func4, Try.ntmps4
    go_wp2
    go_ret
    exact ⟨rfl, Below.refl _ _⟩
  by_cases c3 : 144115188075855872 / 2 ^ l ≤ (i : Int)
  · go_enter Try.func4, Try.ntmps4
    go_wp2
    go_ret
    exact ⟨rfl, Below.refl _ _⟩
  have hfit := fits_of l i (by omega)
  obtain ⟨k, hk⟩ : ∃ k, l = k + 1 := ⟨l - 1, by omega⟩
  have hlaw := follow_law k i (by rw [← hk]; exact hfit)
  rw [← hk] at hlaw
  obtain ⟨g1, g2, g3, g4, g5, g6, g7, g8⟩ := hlaw
  have H1 := hide (fun w => zzpos_any l i (by omega) (by omega) w)
  have H2 := hide (fun w => zzpos_any k (2 * i + 1) (by omega) (by omega) w)
  have H3 := hide (fun w => zzpos_any k (2 * i) (by omega) (by omega) w)
  have H4 := hide (fun w => zzpos_any l 0 (by omega) (by omega) w)
  have e1 : IntKind.u64.wrap ((l : Int) - 1) = k := by rw [u64_id (by omega) (by omega)]; omega
  obtain ⟨j0, hj0⟩ : ∃ j, 2 * i = j := ⟨_, rfl⟩
  obtain ⟨j1, hj1⟩ : ∃ j, j0 + 1 = j := ⟨_, rfl⟩
  have e2 : IntKind.u64.wrap (2 * (i : Int)) = j0 := by rw [u64_id (by omega) (by omega)]; omega
  have e3 : IntKind.u64.wrap ((j0 : Int) + 1) = j1 := by rw [u64_id (by omega) (by omega)]; omega
  rw [hj0] at g1 g2 H2 H3
  rw [hj1] at g1 H2
  have hT2 : 2 ^ (l + 1) = 2 ^ l + 2 ^ l := by rw [Nat.pow_succ]; omega
  obtain ⟨T, hT⟩ : ∃ T : Nat, 2 ^ l = T := ⟨_, rfl⟩
  obtain ⟨T2, hT3⟩ : ∃ T : Nat, 2 ^ (l + 1) = T := ⟨_, rfl⟩
  have eT : (2 ^ l : Int) = (T : Int) := by rw [← hT, Int.natCast_pow]; rfl
  have eT2 : (2 ^ (l + 1) : Int) = (T2 : Int) := by rw [← hT3, Int.natCast_pow]; rfl
  rw [hT, hT3] at hT2
  rw [eT] at c3
  rw [hT] at g2 g4
  rw [hT3] at g3
  have e5 : IntKind.u64.wrap (T : Int) = T := u64_id (by omega) (by omega)
  have e6 : IntKind.u64.wrap (T2 : Int) = T2 := u64_id (by omega) (by omega)
  have e7 : IntKind.u64.wrap ((l : Int) + 1) = l + 1 := u64_id (by omega) (by omega)
  generalize posN l i = p at *
  generalize posN k j1 = right at *
  generalize posN k j0 = left at *
  generalize posN l 0 = first at *
  have e8 : IntKind.u64.wrap ((right : Int) + 1) = p := by rw [u64_id (by omega) (by omega)]; omega
  have e9 : IntKind.u64.wrap ((left : Int) + T) = p := by rw [u64_id (by omega) (by omega)]; omega
  have e10 : IntKind.u64.wrap ((T2 : Int) - 2) = first := by
    have : 2 ≤ T2 := by have := Nat.two_pow_pos l; omega
    rw [u64_id (by omega) (by omega)]; omega
  clear hk hj0 hj1 g1 g2 g3 g4 g5 g6 g7 g8 hT hT2 hT3 hfit
  go_enter Try.func4, Try.ntmps4
  go_wp2_with fail
  refine (H1.out _).mono ?_
  rintro e w1 ⟨rfl, hb1⟩
  have HB1 := hide hb1
  clear hb1
  go_wp2_with fail
  refine (H2.out _).mono ?_
  rintro e w2 ⟨rfl, hb2⟩
  have HB2 := hide (HB1.out.trans (hb2.mono HB1.out.size))
  clear hb2
  go_wp2_with fail
  refine (H3.out _).mono ?_
  rintro e w3 ⟨rfl, hb3⟩
  have HB3 := hide (HB2.out.trans (hb3.mono HB2.out.size))
  clear hb3
  go_wp2_with fail
  refine (H4.out _).mono ?_
  rintro e w4 ⟨rfl, hb4⟩
  have HB4 := hide (HB3.out.trans (hb4.mono HB3.out.size))
  clear hb4
  go_wp2
  go_ret
  exact ⟨rfl, HB4.out⟩
end Go.Proofs.Qxb6615730a
