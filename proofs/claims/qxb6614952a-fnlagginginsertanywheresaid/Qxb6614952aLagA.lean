import Derived.Test.Qxb6614952aAns
import Derived.Deep.RegionHeld3
namespace Go.Proofs.Qxb6614952a
open Go.RowKit

/-- cmp.Compare. -/
def cmpI (x y : Int) : Int := if x < y then -1 else if y < x then 1 else 0
/-- cmp.Or of two. -/
def orI (a b : Int) : Int := if a = 0 then b else a
/-- Version.Compare. -/
def verI (s v s' v' : Int) : Int := orI (cmpI s s') (cmpI v v')
/-- The first version comes before the second. -/
def olderB (s v s' v' : Int) : Bool := if s = s' then decide (v < v') else decide (s < s')
theorem verI_older (s v s' v' : Int) : decide (verI s v s' v' < 0) = olderB s v s' v' := by
  unfold verI orI cmpI olderB
  by_cases h1 : s < s' <;> by_cases h2 : s' < s <;> by_cases h3 : s = s' <;> by_cases h4 : v < v' <;> by_cases h5 : v' < v <;> simp [h1, h2, h3, h4, h5] <;> omega
theorem cmpI_lt {x y : Int} (h : x < y) : cmpI x y = -1 := by unfold cmpI; rw [if_pos h]
theorem cmpI_gt {x y : Int} (h : y < x) : cmpI x y = 1 := by unfold cmpI; rw [if_neg (by omega), if_pos h]
theorem cmpI_eq {x y : Int} (h1 : ¬ x < y) (h2 : ¬ y < x) : cmpI x y = 0 := by unfold cmpI; rw [if_neg h1, if_neg h2]
theorem cmpI_bd (x y : Int) : -1 ≤ cmpI x y ∧ cmpI x y ≤ 1 := by unfold cmpI; split <;> (try split) <;> omega

set_option maxHeartbeats 400000 in
theorem compare_any (x y : Int) (w : World) : Calls Try.prog 36 #[.int .u64 x, .int .u64 y] w fun e w' => e = .returned (.int .i64 (cmpI x y)) ∧ w' = w := by
  by_cases c1 : x < y
  · rw [cmpI_lt c1]
    go_enter Try.func36, Try.ntmps36
    go_wp2
    go_ret
    exact ⟨rfl, rfl⟩
  by_cases c2 : y < x
  · rw [cmpI_gt c2]
    go_enter Try.func36, Try.ntmps36
    go_wp2
    go_ret
    exact ⟨rfl, rfl⟩
  rw [cmpI_eq c1 c2]
  go_enter Try.func36, Try.ntmps36
  go_wp2
  go_ret
  exact ⟨rfl, rfl⟩

set_option maxHeartbeats 400000 in
theorem or_any (g : Nat) (a b : Int) (w : World) (h0 : w.cell? ⟨g, 0, none⟩ = some (.int .i64 a)) (h1 : w.cell? ⟨g, 1, none⟩ = some (.int .i64 b)) :
    Calls Try.prog 35 #[.slice (some ⟨g, 0, none⟩) 2 2] w fun e w' => e = .returned (.int .i64 (orI a b)) ∧ w' = w := by
  have H0 := hide h0
  have H1 := hide h1
  clear h0 h1
  go_enter Try.func35, Try.ntmps35
  go_wp2
  go_loop [5, 8] (fun _ i => ∃ k : Nat, k ≤ 2 ∧ i = .int .i64 k ∧ (1 ≤ k → a = 0) ∧ (2 ≤ k → b = 0)) (fun _ i => 2 - (intOf i).toNat)
  case atStart => exact ⟨0, by omega, rfl, fun h => by omega, fun h => by omega⟩
  case round =>
    obtain ⟨k, hk, rfl, hk1, hk2⟩ := hrel
    have K1 := hide hk1
    have K2 := hide hk2
    clear hk1 hk2
    have : k = 0 ∨ k = 1 ∨ k = 2 := by omega
    rcases this with rfl | rfl | rfl
    · have h0 := H0.out
      by_cases ha : a = 0
      · have hne : (a != 0) = false := by simp [ha]
        have HA := hide ha
        clear ha
        go_wp2
        go_round
        case rel => exact ⟨1, by omega, rfl, fun _ => HA.out, fun h => by omega⟩
        case measure => simp [intOf]
      · have hne : (a != 0) = true := by simp [ha]
        have HA := hide ha
        clear ha
        go_wp2
        go_ret
        exact ⟨by unfold orI; rw [if_neg HA.out]; rfl, rfl⟩
    · have h1 := H1.out
      by_cases hb : b = 0
      · have hne : (b != 0) = false := by simp [hb]
        have HA := hide hb
        clear hb
        go_wp2
        go_round
        case rel => exact ⟨2, by omega, rfl, fun _ => K1.out (by omega), fun h => HA.out⟩
        case measure => simp [intOf]
      · have hne : (b != 0) = true := by simp [hb]
        clear hb
        go_wp2
        go_ret
        exact ⟨by unfold orI; rw [if_pos (K1.out (by omega))]; rfl, rfl⟩
    · go_wp2
      go_ret
      exact ⟨by unfold orI; rw [if_pos (K1.out (by omega)), K2.out (by omega)]; rfl, rfl⟩

set_option maxHeartbeats 800000 in
theorem version_any (s v s' v' : Int) (w : World) :
    Calls Try.prog 31 #[.agg #[.int .u64 s, .int .u64 v], .agg #[.int .u64 s', .int .u64 v']] w fun e w' => e = .returned (.int .i64 (verI s v s' v')) ∧ Below w.heap.size w w' := by
  go_enter Try.func31, Try.ntmps31
  go_wp2
  go_region_held3 (fun w' => w'.cell? ⟨w.heap.size, 0, none⟩ = some (.int .u64 s) ∧ w'.cell? ⟨w.heap.size, 1, none⟩ = some (.int .u64 v) ∧ w'.cell? ⟨w.heap.size + 1, 0, none⟩ = some (.int .u64 s') ∧ w'.cell? ⟨w.heap.size + 1, 1, none⟩ = some (.int .u64 v')) (simp [go_sem, World.cell?_alloc_past])
    (first
      | (go_at_call 36; refine (compare_any _ _ _).mono ?_; rintro e w' ⟨rfl, rfl⟩)
      | (go_at_call 35; refine (or_any _ (cmpI s s') (cmpI v v') _ (by simp [go_sem]) (by simp [go_sem])).mono ?_; rintro e w' ⟨rfl, rfl⟩))
  go_wp2
  go_ret
  exact ⟨rfl, ((((Below.refl _ _).alloc (Nat.le_refl _) _).alloc (by simp) _).alloc (by simp; omega) _).drew⟩
end Go.Proofs.Qxb6614952a
