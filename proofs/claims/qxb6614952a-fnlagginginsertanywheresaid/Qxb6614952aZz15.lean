import Derived.Test.Qxb6614952aRep
namespace Go.Proofs.Qxb6614952a
open Go.RowKit

set_option maxRecDepth 8000 in
set_option maxHeartbeats 1600000 in
theorem zz15_any (a : Option Addr) (len cap : Nat) (rs : Nat → Rep) (p : Int) (x y : Rep) (w : World) (hl : len ≤ maxLen) (hs : Sees w a len rs) (hx : x.ok) (hy : y.vlen ≤ maxLen) :
    Calls Try.prog 15 #[.slice a len cap, .int .i64 p, x.val, y.rec_] w fun e w' => AnsLen len e ∧ Below w.heap.size w w' := by
  obtain ⟨hx1, hx2, hx3⟩ := hx
  have HS : Hid (Sees w a len rs) := hs
  clear hs
  unfold maxLen at hl hx1 hx2 hx3 hy
  by_cases c1 : (1048576 : Int) < (len : Int)
  · go_enter Try.func15, Try.ntmps15
    go_wp2
    go_ret
    exact ⟨AnsLen.no _, ((Below.refl _ _).alloc (Nat.le_refl _) _).alloc (by simp) _⟩
  go_enter Try.func15, Try.ntmps15
  go_wp2
  go_loop [9, 10] (fun n i => ∃ k : Nat, ∃ z : Int, k ≤ len ∧ 0 ≤ z ∧ z ≤ 1048576 ∧ i = .int .i64 k ∧ n = .int .i64 z) (fun _ i => len - (intOf i).toNat)
  case atStart => exact ⟨0, _, Nat.zero_le _, by omega, by omega, rfl, rfl⟩
  case round =>
    obtain ⟨k, z, hk, hz0, hz1, rfl, rfl⟩ := hrel
    by_cases hlt : k < len
    · obtain ⟨⟨ho1, ho2, ho3⟩, b, off, ha, hblt, hc⟩ := HS.out k hlt
      unfold maxLen at ho1 ho2 ho3
      have e0 := hc 0 (by omega)
      have e1 := hc 1 (by omega)
      have e13 := hc 13 (by omega)
      simp only [Rep.cell, Nat.add_zero] at e0 e1 e13
      have e13' : w.cell? ⟨b, off + k * 15 + 4 + 9, none⟩ = some (.slice (rs k).va (rs k).vlen (rs k).vcap) := e13
      subst ha
      clear hc
      go_wp2
      all_goals first
        | (go_ret; exact ⟨AnsLen.no _, ((Below.refl _ _).alloc (Nat.le_refl _) _).alloc (by simp) _⟩)
        | (go_round
           case rel => exact ⟨k + 1, _, by omega, by omega, by omega, by go_num, rfl⟩
           case measure => simp [intOf]; omega)
    · go_wp2
      all_goals first
        | (go_ret; exact ⟨AnsLen.no _, ((Below.refl _ _).alloc (Nat.le_refl _) _).alloc (by simp) _⟩)
        | (go_ret; exact ⟨AnsLen.yes (by omega) _, ((Below.refl _ _).alloc (Nat.le_refl _) _).alloc (by simp) _⟩)
end Go.Proofs.Qxb6614952a
