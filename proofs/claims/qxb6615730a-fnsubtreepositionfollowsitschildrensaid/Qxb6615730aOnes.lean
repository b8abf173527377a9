import Derived.Test.Qxb6615730aRows
import Derived.Test.Qxb6615730aPop
import Derived.WalkKit
import Derived.WalkSpells
import Derived.WalkLawsBesides
import Derived.Deep.QuietTactic
import Derived.BigQuiet
namespace Go.Proofs.Qxb6615730a
open Go.RowKit

theorem hide {p : Prop} (h : p) : Hid p := h

theorem mask85 : mask 85 8 = 6148914691236517205 := by decide +kernel
theorem mask51 : mask 51 8 = 3689348814741910323 := by decide +kernel
theorem mask15 : mask 15 8 = 1085102592571150095 := by decide +kernel

theorem and64 (a m : Nat) (i : Int) (hi : i = (a : Int)) (ha : a < 18446744073709551616) (hm : m < 18446744073709551616) : bits .and .u64 i (m : Int) = ((a &&& m : Nat) : Int) := by
  rw [hi]; exact u64_and_nat a m ha hm
theorem wrap64u (a : Nat) (i : Int) (hi : i = (a : Int)) (ha : a < 18446744073709551616) : IntKind.u64.wrap i = (a : Int) := by
  rw [IntKind.wrap_u64]; omega

theorem and_le_mask (a m : Nat) : a &&& m ≤ m := Nat.and_le_right

theorem and127 (n : Nat) (_hn : n < 9223372036854775808) : bits .and .i64 (wrap64 (n : Int)) 127 = ((n % 128 : Nat) : Int) := by
  rw [i64_and127]
  unfold wrap64
  omega

/-- The twelve facts that the walk of OnesCount64 wants. -/
theorem ones_facts (x : Nat) (hx : x < 18446744073709551616) : ∃ a1 a2 y1 a3 a4 y2 a5 y3 y4 y5 y6 : Nat,
    bits .and .u64 ((x : Int) / 2) 6148914691236517205 = (a1 : Int) ∧ bits .and .u64 (x : Int) 6148914691236517205 = (a2 : Int) ∧ IntKind.u64.wrap ((a1 : Int) + a2) = (y1 : Int) ∧
    bits .and .u64 ((y1 : Int) / 4) 3689348814741910323 = (a3 : Int) ∧ bits .and .u64 (y1 : Int) 3689348814741910323 = (a4 : Int) ∧ IntKind.u64.wrap ((a3 : Int) + a4) = (y2 : Int) ∧
    IntKind.u64.wrap ((y2 : Int) / 16 + y2) = (a5 : Int) ∧ bits .and .u64 (a5 : Int) 1085102592571150095 = (y3 : Int) ∧
    IntKind.u64.wrap ((y3 : Int) + (y3 : Int) / 256) = (y4 : Int) ∧ IntKind.u64.wrap ((y4 : Int) + (y4 : Int) / 65536) = (y5 : Int) ∧ IntKind.u64.wrap ((y5 : Int) + (y5 : Int) / 4294967296) = (y6 : Int) ∧
    bits .and .i64 (wrap64 (y6 : Int)) 127 = (pc x : Int) := by
  obtain ⟨hs, hlt⟩ := swar x hx
  have l1 := and_le_mask (x / 2) 6148914691236517205
  have l2 := and_le_mask x 6148914691236517205
  have l3 := and_le_mask (f1 8 x / 4) 3689348814741910323
  have l4 := and_le_mask (f1 8 x) 3689348814741910323
  have d1 : f1 8 x = (x / 2 &&& 6148914691236517205) + (x &&& 6148914691236517205) := by unfold f1; rw [mask85]
  have d2 : f2 8 (f1 8 x) = (f1 8 x / 4 &&& 3689348814741910323) + (f1 8 x &&& 3689348814741910323) := by conv => lhs; unfold f2; rw [mask51]
  have d3 : f3 8 (f2 8 (f1 8 x)) = (f2 8 (f1 8 x) / 16 + f2 8 (f1 8 x)) &&& 1085102592571150095 := by conv => lhs; unfold f3; rw [mask15]
  generalize f3 8 (f2 8 (f1 8 x)) = C at *
  generalize f2 8 (f1 8 x) = B at *
  generalize f1 8 x = A at *
  refine ⟨_, _, A, _, _, B, B / 16 + B, C, C + C / 256, C + C / 256 + (C + C / 256) / 65536, fold3 C,
    and64 (x / 2) 6148914691236517205 _ (by omega) (by omega) (by omega), and64 x 6148914691236517205 _ rfl (by omega) (by omega), wrap64u A _ (by omega) (by omega),
    and64 (A / 4) 3689348814741910323 _ (by omega) (by omega) (by omega), and64 A 3689348814741910323 _ rfl (by omega) (by omega), wrap64u B _ (by omega) (by omega),
    wrap64u (B / 16 + B) _ (by omega) (by omega), ?_, wrap64u (C + C / 256) _ (by omega) (by omega), wrap64u _ _ (by omega) (by omega), wrap64u _ _ (by unfold fold3; omega) (by unfold fold3; omega), ?_⟩
  · rw [d3]; exact and64 (B / 16 + B) 1085102592571150095 _ rfl (by omega) (by omega)
  · rw [and127 _ (by unfold fold3; omega), hs]

set_option maxHeartbeats 400000 in
theorem ones_any (x : Nat) (hx : x < 18446744073709551616) (w : World) :
    Calls Try.prog 15 #[.int .u64 x] w fun e w' => e = .returned (.int .i64 (pc x)) ∧ w' = w := by
  obtain ⟨a1, a2, y1, a3, a4, y2, a5, y3, y4, y5, y6, h1, h2, h3, h4, h5, h6, h7, h8, h9, h10, h11, h12⟩ := ones_facts x hx
  clear hx
  go_enter Try.func15, Try.ntmps15
  go_wp2
  go_ret
  exact ⟨rfl, rfl⟩

theorem pcF_le_self (k : Nat) : ∀ n, pcF k n ≤ n := by
  induction k with
  | zero => intro n; exact Nat.zero_le _
  | succ k ih => intro n; simp only [pcF]; have := ih (n / 2); omega

theorem u64_id {x : Int} (h0 : 0 ≤ x) (h1 : x < 18446744073709551616) : IntKind.u64.wrap x = x := by rw [IntKind.wrap_u64]; omega

set_option maxHeartbeats 400000 in
theorem stored_any (n : Nat) (hn : n < 2305843009213693952) (w : World) :
    Calls Try.prog 14 #[.int .u64 n] w fun e w' => e = .returned (.int .u64 (2 * (n : Int) - pc n)) ∧ w' = w := by
  have hp : pc n ≤ n := pcF_le_self 64 n
  have hp1 : pc n ≤ 64 := pcF_le 64 n
  have H1 := hide (fun w => ones_any n (by omega) w)
  generalize pc n = q at *
  have e1 : IntKind.u64.wrap (2 * (n : Int)) = 2 * n := u64_id (by omega) (by omega)
  have e2 : IntKind.u64.wrap (q : Int) = q := u64_id (by omega) (by omega)
  have e3 : IntKind.u64.wrap (2 * (n : Int) - q) = 2 * n - q := u64_id (by omega) (by omega)
  clear hn hp hp1
  go_enter Try.func14, Try.ntmps14
  go_wp2_with fail
  refine (H1.out _).mono ?_
  rintro e w' ⟨rfl, rfl⟩
  go_wp2
  go_ret
  exact ⟨rfl, rfl⟩

/-- Where the tree file holds the subtree. -/
def posN (l i : Nat) : Nat := 2 * ((i + 1) * 2 ^ l) - 2 - pc i

theorem pc_last (l i : Nat) (hl : l ≤ 57) (h2 : (i + 1) * 2 ^ l ≤ 2305843009213693952) : pc ((i + 1) * 2 ^ l - 1) = l + pc i := by
  have hp : 0 < 2 ^ l := Nat.two_pow_pos l
  have e : (i + 1) * 2 ^ l - 1 = (2 ^ l - 1) + 2 ^ l * i := by rw [Nat.add_mul, Nat.mul_comm i]; omega
  have hi2 : i < 2 ^ (64 - l) := by
    have : 2 ^ (64 - l) * 2 ^ l = 2 ^ 64 := by rw [← Nat.pow_add]; congr 1; omega
    have h3 : i * 2 ^ l < 2 ^ (64 - l) * 2 ^ l := by
      rw [this]
      rw [Nat.add_mul] at h2
      omega
    exact Nat.lt_of_mul_lt_mul_right h3
  unfold pc
  rw [show (64 : Nat) = l + (64 - l) by omega, pcF_split, e, pcF_add, pcF_ones, Nat.add_mul_div_left _ _ hp, Nat.div_eq_of_lt (by omega), Nat.zero_add]
  congr 1
  rw [show l + (64 - l) = (64 - l) + l by omega, pcF_stable hi2]

set_option maxHeartbeats 400000 in
theorem position_any (l i : Nat) (hl : l ≤ 57) (hi : (i + 1) * 2 ^ l ≤ 1152921504606846976) (w : World) :
    Calls Try.prog 12 #[.agg #[.int .u64 l, .int .u64 i]] w fun e w' => e = .returned (.int .u64 (posN l i)) ∧ Below w.heap.size w w' := by
  have hp : 0 < 2 ^ l := Nat.two_pow_pos l
  have hi1 : i + 1 ≤ (i + 1) * 2 ^ l := Nat.le_mul_of_pos_right _ hp
  have hpc := pc_last l i hl (by omega)
  have hpi : pc i ≤ i := pcF_le_self 64 i
  have hpos : posN l i = 2 * ((i + 1) * 2 ^ l) - 2 - pc i := rfl
  obtain ⟨L, hL⟩ : ∃ L : Nat, (i + 1) * 2 ^ l = L := ⟨_, rfl⟩
  have hL' : ((i : Int) + 1) * 2 ^ l = (L : Int) := by rw [← hL]; push_cast; rfl
  rw [hL] at hi hi1 hpc hpos
  obtain ⟨m, hm⟩ : ∃ m, L = m + 1 := ⟨L - 1, by omega⟩
  have H1 := hide (fun w => stored_any m (by omega) w)
  rw [show L - 1 = m by omega] at hpc
  rw [hpc] at H1
  have e1 : IntKind.u64.wrap ((i : Int) + 1) = i + 1 := u64_id (by omega) (by omega)
  have e2 : IntKind.u64.wrap (((i : Int) + 1) * 2 ^ l) = L := by rw [hL']; exact u64_id (by omega) (by omega)
  have e3 : IntKind.u64.wrap ((L : Int) - 1) = m := by rw [u64_id (by omega) (by omega)]; omega
  generalize pc i = q at *
  have e4 : IntKind.u64.wrap (2 * (m : Int) - (l + q) + l) = (posN l i : Int) := by rw [u64_id (by omega) (by omega)]; omega
  generalize posN l i = r at *
  clear hL hL' hi hi1 hpc hpi hpos hm hp
  go_enter Try.func12, Try.ntmps12
  go_wp2
  go_quiet ((go_at_call 14; exact Calls.quiet_of_same (H1.out _)))
  go_wp2
  go_ret
  exact ⟨rfl, below_drewN ((Below.refl _ _).alloc (Nat.le_refl _) _) _⟩

set_option maxHeartbeats 400000 in
theorem zzpos_any (l i : Nat) (hl : l ≤ 57) (hi : (i + 1) * 2 ^ l ≤ 1152921504606846976) (w : World) :
    Calls Try.prog 9 #[.int .u64 l, .int .u64 i] w fun e w' => e = .returned (.int .u64 (posN l i)) ∧ Below w.heap.size w w' := by
  have H1 := hide (fun w => position_any l i hl hi w)
  generalize posN l i = r at *
  clear hl hi
  go_enter Try.func9, Try.ntmps9
  go_wp2_with fail
  refine (H1.out _).mono ?_
  rintro e w1 ⟨rfl, hb⟩
  have HB := hide hb
  clear hb
  go_wp2
  go_ret
  exact ⟨rfl, HB.out⟩
end Go.Proofs.Qxb6615730a
