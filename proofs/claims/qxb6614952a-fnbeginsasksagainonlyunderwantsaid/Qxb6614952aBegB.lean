import Derived.Test.Qxb6614952aBegA
namespace Go.Proofs.Qxb6614952a
open Go.RowKit

/-- What the walk is told of a slice of strings that came in. -/
def IsStrs (w : World) (a : Option Addr) (len : Nat) (ss : List ByteArray) : Prop :=
  len ≤ maxLen ∧ ∀ i, i < len → ∃ b off, a = some ⟨b, off, none⟩ ∧ w.cell? ⟨b, off + i, none⟩ = some (.string (ss.getD i ByteArray.empty)) ∧ (ss.getD i ByteArray.empty).size ≤ maxLen

set_option maxHeartbeats 800000 in
theorem zzBytesBegins_any (m gf wm nm : Int) (al ga wa na : ByteArray) (a : Option Addr) (len cap : Nat) (ss : List ByteArray) (w : World)
    (hal : al.size ≤ maxLen) (hga : ga.size ≤ maxLen) (hwa : wa.size ≤ maxLen) (hna : na.size ≤ maxLen) (hr : IsStrs w a len ss) :
    Calls Try.prog 26 #[.int .u64 m, .string al, .int .u64 gf, .string ga, .slice a len cap, .string wa, .int .u64 wm, .string na, .int .u64 nm] w fun e w' => AnsBool e ∧ w' = w := by
  obtain ⟨hl, hcell⟩ := hr
  have HC : Hid (∀ i, i < len → ∃ b off, a = some ⟨b, off, none⟩ ∧ w.cell? ⟨b, off + i, none⟩ = some (.string (ss.getD i ByteArray.empty)) ∧ (ss.getD i ByteArray.empty).size ≤ maxLen) := hcell
  clear hcell
  unfold maxLen at hal hga hwa hna hl
  by_cases c1 : (1048576 : Int) < (al.size : Int)
  · go_enter Try.func26, Try.ntmps26
    go_wp2
    all_goals (go_ret; exact ⟨AnsBool.mk _, rfl⟩)
  by_cases c2 : (1048576 : Int) < (ga.size : Int)
  · go_enter Try.func26, Try.ntmps26
    go_wp2
    all_goals (go_ret; exact ⟨AnsBool.mk _, rfl⟩)
  by_cases c3 : (1048576 : Int) < (al.size : Int) + (ga.size : Int)
  · go_enter Try.func26, Try.ntmps26
    go_wp2
    all_goals (go_ret; exact ⟨AnsBool.mk _, rfl⟩)
  by_cases c4 : (1048576 : Int) < (len : Int)
  · go_enter Try.func26, Try.ntmps26
    go_wp2
    all_goals (go_ret; exact ⟨AnsBool.mk _, rfl⟩)
  by_cases c5 : (1048576 : Int) < (al.size : Int) + (ga.size : Int) + (len : Int)
  · go_enter Try.func26, Try.ntmps26
    go_wp2
    all_goals (go_ret; exact ⟨AnsBool.mk _, rfl⟩)
  go_enter Try.func26, Try.ntmps26
  go_wp2
  go_loop [19, 20] (fun n i => ∃ k : Nat, ∃ z : Int, k ≤ len ∧ 0 ≤ z ∧ z ≤ 1048576 ∧ i = .int .i64 k ∧ n = .int .i64 z) (fun _ i => len - (intOf i).toNat)
  case atStart => exact ⟨0, _, Nat.zero_le _, by omega, by omega, rfl, rfl⟩
  case round =>
    obtain ⟨k, z, hk, hz0, hz1, rfl, rfl⟩ := hrel
    by_cases hlt : k < len
    · obtain ⟨b, off, ha, hc, hsz⟩ := HC.out k hlt
      generalize ss.getD k ByteArray.empty = s at hc hsz
      unfold maxLen at hsz
      subst ha
      by_cases d1 : (1048576 : Int) < (s.size : Int)
      · go_wp2
        all_goals (go_ret; exact ⟨AnsBool.mk _, rfl⟩)
      · go_wp2
        · go_ret; exact ⟨AnsBool.mk _, rfl⟩
        · go_round
          case rel => exact ⟨k + 1, _, by omega, by omega, by omega, by go_num, rfl⟩
          case measure => simp [intOf]; omega
    · go_wp2
      all_goals (go_ret; exact ⟨AnsBool.mk _, rfl⟩)
end Go.Proofs.Qxb6614952a
