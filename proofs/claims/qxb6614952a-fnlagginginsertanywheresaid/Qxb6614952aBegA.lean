import Derived.Test.Qxb6614952aKit
namespace Go.Proofs.Qxb6614952a
open Go.RowKit

set_option maxHeartbeats 400000 in
theorem addString_any (t : Int) (s : ByteArray) (w : World) (h0 : 0 ≤ t) (h1 : t ≤ 1099511627776) (hs : s.size ≤ maxLen) :
    Calls Try.prog 29 #[.int .i64 t, .string s] w fun e w' => (∃ n : Int, 0 ≤ n ∧ n ≤ 2097152 ∧ e = .returned (.int .i64 n)) ∧ w' = w := by
  unfold maxLen at hs
  by_cases c1 : 1048576 < t
  · go_enter Try.func29, Try.ntmps29
    go_wp2
    go_ret
    exact ⟨⟨_, by omega, by omega, rfl⟩, rfl⟩
  · by_cases c2 : (1048576 : Int) < (s.size : Int)
    · go_enter Try.func29, Try.ntmps29
      go_wp2
      go_ret
      exact ⟨⟨_, by omega, by omega, rfl⟩, rfl⟩
    · go_enter Try.func29, Try.ntmps29
      go_wp2
      go_ret
      exact ⟨⟨_, by omega, by omega, rfl⟩, rfl⟩
end Go.Proofs.Qxb6614952a
