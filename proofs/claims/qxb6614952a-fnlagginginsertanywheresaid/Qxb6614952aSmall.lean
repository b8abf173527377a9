import Derived.Test.Qxb6614952aRep
namespace Go.Proofs.Qxb6614952a
open Go.RowKit

set_option maxHeartbeats 400000 in
theorem toMember_any (r : Rep) (w : World) :
    Calls Try.prog 21 #[r.val] w fun e w' => e = .returned (.agg #[.string r.id, .string r.addr, .int .i64 r.state, .bool r.retired]) ∧ Below w.heap.size w w' := by
  go_enter Try.func21, Try.ntmps21
  go_wp2
  refine bodyPost_ret (v := .agg #[.string r.id, .string r.addr, .int .i64 r.state, .bool r.retired]) (by simp [results, Try.results21, go_sem]) rfl ⟨rfl, ?_⟩
  exact ((Below.refl _ _).alloc (Nat.le_refl _) _).alloc (by simp) _

set_option maxHeartbeats 400000 in
theorem toRecord_any (r : Rep) (w : World) :
    Calls Try.prog 17 #[r.rec_] w fun e w' => e = .returned r.rec_ ∧ Below w.heap.size w w' := by
  go_enter Try.func17, Try.ntmps17
  go_wp2
  refine bodyPost_ret (v := r.rec_) (by simp [results, Try.results17, go_sem]) rfl ⟨rfl, ?_⟩
  exact ((Below.refl _ _).alloc (Nat.le_refl _) _).alloc (by simp) _

set_option maxHeartbeats 400000 in
theorem errorsNew_any (s : ByteArray) (w : World) :
    Calls Try.prog 39 #[.string s] w fun e w' => e = .returned (.iface 86 (.pointer (some ⟨w.heap.size, 0, none⟩))) ∧ Below w.heap.size w w' := by
  go_enter Try.func39, Try.ntmps39
  go_wp2
  go_ret
  exact ⟨rfl, (Below.refl _ _).alloc (Nat.le_refl _) _⟩

set_option maxHeartbeats 400000 in
theorem answered_any (r : Rep) (w : World) :
    Calls Try.prog 12 #[r.val] w fun e w' => e = .returned (.bool (!r.failed && r.settled)) ∧ Below w.heap.size w w' := by
  have h : ∀ b : Bool, r.failed = b → Calls Try.prog 12 #[r.val] w fun e w' => e = .returned (.bool (!b && r.settled)) ∧ Below w.heap.size w w' := by
    intro b hb
    cases b
    all_goals
      go_enter Try.func12, Try.ntmps12
      go_wp2
      go_ret
      exact ⟨rfl, (Below.refl _ _).alloc (Nat.le_refl _) _⟩
  exact h _ rfl
end Go.Proofs.Qxb6614952a
