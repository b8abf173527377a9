import Derived.Test.Qxb6615730aFol
namespace Go.Proofs.Qxb6615730a
open Go.RowKit

theorem pc_shift (l i : Nat) (hl : l ≤ 57) (h : i * 2 ^ l ≤ 2305843009213693952) : pc (i * 2 ^ l) = pc i := by
  have hp : 0 < 2 ^ l := Nat.two_pow_pos l
  have hi2 : i < 2 ^ (64 - l) := by
    have : 2 ^ (64 - l) * 2 ^ l = 2 ^ 64 := by rw [← Nat.pow_add]; congr 1; omega
    have h3 : i * 2 ^ l < 2 ^ (64 - l) * 2 ^ l := by rw [this]; omega
    exact Nat.lt_of_mul_lt_mul_right h3
  have e : i * 2 ^ l = 0 + 2 ^ l * i := by rw [Nat.mul_comm]; omega
  have h1 : pcF (l + (64 - l)) (i * 2 ^ l) = pcF (64 - l) i := by
    rw [pcF_split, e, pcF_add, pcF_zero, Nat.add_mul_div_left _ _ hp, Nat.div_eq_of_lt hp, Nat.zero_add, Nat.zero_add]
  have h2 : pcF ((64 - l) + l) i = pcF (64 - l) i := pcF_stable hi2
  rw [show l + (64 - l) = 64 by omega] at h1
  rw [show 64 - l + l = 64 by omega] at h2
  exact h1.trans h2.symm

/-- The plain law: a subtree's block of hashes between its leaves. -/
theorem lies_law (l i : Nat) (hl : l ≤ 57) (hi : (i + 1) * 2 ^ l ≤ 144115188075855872) :
    posN 0 (i * 2 ^ l) + 2 ^ (l + 1) - 2 = posN l i ∧ posN 0 ((i + 1) * 2 ^ l) + pc (i + 1) = posN l i + 2 + pc i ∧ posN l i + pc i + 2 = 2 * ((i + 1) * 2 ^ l) ∧ 2 ^ l ≤ 144115188075855872 ∧ i < 144115188075855872 ∧ i * 2 ^ l + 2 ^ l = (i + 1) * 2 ^ l := by
  have hp : 0 < 2 ^ l := Nat.two_pow_pos l
  have hle : i + 1 ≤ (i + 1) * 2 ^ l := Nat.le_mul_of_pos_right _ hp
  have e : i * 2 ^ l + 2 ^ l = (i + 1) * 2 ^ l := by rw [Nat.add_mul, Nat.one_mul]
  have hpi : pc i ≤ i := pcF_le_self 64 i
  have hpj : pc (i + 1) ≤ i + 1 := pcF_le_self 64 (i + 1)
  have s1 := pc_shift l i hl (by omega)
  have s2 := pc_shift l (i + 1) hl (by omega)
  have hle2 : i ≤ i * 2 ^ l := Nat.le_mul_of_pos_right _ hp
  have hT : 2 ^ (l + 1) = 2 ^ l + 2 ^ l := by rw [Nat.pow_succ]; omega
  unfold posN
  rw [s1, s2, hT, Nat.pow_zero, Nat.mul_one, Nat.mul_one]
  generalize (i + 1) * 2 ^ l = L at *
  generalize i * 2 ^ l = M at *
  generalize 2 ^ l = T at *
  generalize pc i = a at *
  generalize pc (i + 1) = b at *
  refine ⟨by omega, by omega, by omega, by omega, by omega, by omega⟩

theorem and_one (x : Nat) (hx : x < 18446744073709551616) : bits .and .u64 (x : Int) 1 = ((x % 2 : Nat) : Int) := by
  have := u64_and_nat x 1 hx (by omega)
  rw [nat_mask1] at this
  exact this

set_option maxHeartbeats 800000 in
theorem lies_any (l i : Nat) (w : World) :
    Calls Try.prog 5 #[.int .u64 l, .int .u64 i] w fun e w' => e = .returned (.bool true) ∧ Below w.heap.size w w' := by
  by_cases c2 : (57 : Int) < (l : Int)
  · go_enter Try.func5, Try.ntmps5
    go_wp2
    go_ret
    exact ⟨rfl, Below.refl _ _⟩
  by_cases c3 : 144115188075855872 / 2 ^ l ≤ (i : Int)
  · go_enter Try.func5, Try.ntmps5
    go_wp2
    go_ret
    exact ⟨rfl, Below.refl _ _⟩
  have hfit := fits_of l i (by omega)
  obtain ⟨g1, g2, g3, g4, g5, g6⟩ := lies_law l i (by omega) hfit
  have H1 := hide (fun w => zzpos_any l i (by omega) (by omega) w)
  have hT2 : 2 ^ (l + 1) = 2 ^ l + 2 ^ l := by rw [Nat.pow_succ]; omega
  obtain ⟨T, hT⟩ : ∃ T : Nat, 2 ^ l = T := ⟨_, rfl⟩
  obtain ⟨T2, hT3⟩ : ∃ T : Nat, 2 ^ (l + 1) = T := ⟨_, rfl⟩
  have eT : (2 ^ l : Int) = (T : Int) := by rw [← hT, Int.natCast_pow]; rfl
  have eT2 : (2 ^ (l + 1) : Int) = (T2 : Int) := by rw [← hT3, Int.natCast_pow]; rfl
  rw [eT] at c3
  have hTp : 0 < T := by rw [← hT]; exact Nat.two_pow_pos l
  rw [hT, hT3] at hT2
  rw [hT] at g2 g3 g4 g6 hfit
  rw [hT, hT3] at g1
  obtain ⟨A, hA⟩ : ∃ A : Nat, i * T = A := ⟨_, rfl⟩
  obtain ⟨L, hL⟩ : ∃ L : Nat, (i + 1) * T = L := ⟨_, rfl⟩
  have eA : (i : Int) * T = A := by rw [← hA]; push_cast; rfl
  have eL : ((i : Int) + 1) * T = L := by rw [← hL]; push_cast; rfl
  rw [hA] at g1 g6
  rw [hL] at g2 g3 g6 hfit
  have H2 := hide (fun w => zzpos_any 0 A (by omega) (by rw [Nat.pow_zero]; omega) w)
  have H3 := hide (fun w => zzpos_any 0 L (by omega) (by rw [Nat.pow_zero]; omega) w)
  have e1 : IntKind.u64.wrap (A : Int) = A := u64_id (by omega) (by omega)
  have e2 : IntKind.u64.wrap ((i : Int) + 1) = i + 1 := u64_id (by omega) (by omega)
  have e3 : IntKind.u64.wrap (L : Int) = L := u64_id (by omega) (by omega)
  have e4 : IntKind.u64.wrap ((l : Int) + 1) = l + 1 := u64_id (by omega) (by omega)
  have e5 : IntKind.u64.wrap (T2 : Int) = T2 := u64_id (by omega) (by omega)
  have hp64 : pc i ≤ 64 := pcF_le 64 i
  have hq64 : pc (i + 1) ≤ 64 := pcF_le 64 (i + 1)
  generalize posN l i = p at *
  generalize posN 0 A = fl at *
  generalize posN 0 L = nl at *
  have e6 : IntKind.u64.wrap ((fl : Int) + T2) = fl + T2 := u64_id (by omega) (by omega)
  have e7 : IntKind.u64.wrap ((fl : Int) + T2 - 2) = p := by rw [u64_id (by omega) (by omega)]; omega
  have G2 := hide g2
  have G3 := hide g3
  clear hT hT2 hT3 hA hL g1 g2 g3 g4 g6
  go_enter Try.func5, Try.ntmps5
  go_wp2_with fail
  refine (H1.out _).mono ?_
  rintro e w1 ⟨rfl, hb1⟩
  have HB1 := hide hb1
  clear hb1
  go_wp2_with fail
  refine (H2.out _).mono ?_
  rintro e w2 ⟨rfl, hb2⟩
  have HB2 := hide (HB1.out.trans (hb2.mono HB1.out.size))
  clear hb2
  go_wp2_with fail
  refine (H3.out _).mono ?_
  rintro e w3 ⟨rfl, hb3⟩
  have HB3 := hide (HB2.out.trans (hb3.mono HB2.out.size))
  clear hb3
  go_wp2
  go_loop [8, 9] (fun t x => ∃ tn xn : Nat, t = .int .u64 tn ∧ x = .int .u64 xn ∧ xn ≤ i ∧ pc i = pc xn + tn ∧ pc (i + 1) = pc (xn + 1)) (fun _ x => (intOf x).toNat)
  case atStart => exact ⟨0, i, rfl, rfl, Nat.le_refl _, (Nat.add_zero _).symm, rfl⟩
  case round =>
    obtain ⟨tn, xn, rfl, rfl, hxi, hq1, hq2⟩ := hrel
    have Q1 := hide hq1
    have Q2 := hide hq2
    have htn : tn ≤ 64 := by omega
    clear hq1 hq2
    have ha := and_one xn (by omega)
    by_cases hodd : xn % 2 = 1
    · rw [hodd] at ha
      have e8 : IntKind.u64.wrap ((tn : Int) + 1) = tn + 1 := u64_id (by omega) (by omega)
      have HO := hide hodd
      clear hodd
      go_wp2
      go_round
      case rel =>
        have hodd := HO.out
        have hx : xn = 2 * (xn / 2) + 1 := by omega
        have p1 := pc_odd (xn / 2) (by omega)
        have p2 := pc_even (xn / 2 + 1) (by omega)
        rw [← hx] at p1
        rw [show 2 * (xn / 2 + 1) = xn + 1 by omega] at p2
        refine ⟨tn + 1, xn / 2, by go_num, by go_num, by omega, ?_, ?_⟩
        · have := Q1.out; omega
        · rw [Q2.out, p2]
      case measure =>
        have hodd := HO.out
        simp [intOf]; omega
    · have h0 : xn % 2 = 0 := by omega
      rw [h0] at ha
      have hx : xn = 2 * (xn / 2) := by omega
      have p1 := pc_odd (xn / 2) (by omega)
      have p2 := pc_even (xn / 2) (by omega)
      rw [← hx] at p1 p2
      have e8 : IntKind.u64.wrap ((p : Int) + tn) = p + tn := by have := G2.out; have := G3.out; exact u64_id (by omega) (by omega)
      have e9 : IntKind.u64.wrap ((p : Int) + tn + 1) = nl := by
        have := G2.out; have := G3.out; have := Q1.out; have := Q2.out
        rw [u64_id (by omega) (by omega)]; omega
      clear hodd h0 hx p1 p2
      go_wp2
      go_ret
      exact ⟨rfl, HB3.out⟩
end Go.Proofs.Qxb6615730a
