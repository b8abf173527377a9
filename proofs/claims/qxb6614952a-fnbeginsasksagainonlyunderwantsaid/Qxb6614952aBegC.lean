import Derived.Test.Qxb6614952aBegB
namespace Go.Proofs.Qxb6614952a
open Go.RowKit

set_option maxHeartbeats 800000 in
theorem beginsFit_any (al ga wa na : ByteArray) (a : Option Addr) (len cap : Nat) (ss : List ByteArray) (w : World)
    (hal : al.size ≤ maxLen) (hga : ga.size ≤ maxLen) (hwa : wa.size ≤ maxLen) (hna : na.size ≤ maxLen) (hr : IsStrs w a len ss) :
    Calls Try.prog 27 #[.string al, .string ga, .slice a len cap, .string wa, .string na] w fun e w' => AnsBool e ∧ w' = w := by
  obtain ⟨hl, hcell⟩ := hr
  have HC : Hid (∀ i, i < len → ∃ b off, a = some ⟨b, off, none⟩ ∧ w.cell? ⟨b, off + i, none⟩ = some (.string (ss.getD i ByteArray.empty)) ∧ (ss.getD i ByteArray.empty).size ≤ maxLen) := hcell
  clear hcell
  have hl' := hl
  unfold maxLen at hl'
  go_enter Try.func27, Try.ntmps27
  go_wp2_with fail
  refine (addString_any _ al _ (by omega) (by omega) hal).mono ?_
  rintro e w' ⟨⟨n1, h1, h1', rfl⟩, rfl⟩
  go_wp2_with fail
  refine (addString_any _ ga _ (by omega) (by omega) hga).mono ?_
  rintro e w' ⟨⟨n2, h2, h2', rfl⟩, rfl⟩
  go_wp2_with fail
  refine (addString_any _ wa _ (by omega) (by omega) hwa).mono ?_
  rintro e w' ⟨⟨n3, h3, h3', rfl⟩, rfl⟩
  go_wp2_with fail
  refine (addString_any _ na _ (by omega) (by omega) hna).mono ?_
  rintro e w' ⟨⟨n4, h4, h4', rfl⟩, rfl⟩
  by_cases c1 : 1048576 < n4
  · go_wp2
    go_ret; exact ⟨AnsBool.mk _, rfl⟩
  by_cases c2 : (65536 : Int) < (len : Int)
  · go_wp2
    go_ret; exact ⟨AnsBool.mk _, rfl⟩
  go_wp2
  go_loop [11, 12] (fun n i => ∃ k : Nat, ∃ z : Int, k ≤ len ∧ 0 ≤ z ∧ z ≤ 2097152 ∧ i = .int .i64 k ∧ n = .int .i64 z) (fun _ i => len - (intOf i).toNat)
  case atStart => exact ⟨0, _, Nat.zero_le _, by omega, by omega, rfl, rfl⟩
  case round =>
    obtain ⟨k, z, hk, hz0, hz1, rfl, rfl⟩ := hrel
    by_cases hlt : k < len
    · obtain ⟨b, off, ha, hc, hsz⟩ := HC.out k hlt
      generalize ss.getD k ByteArray.empty = s at hc hsz
      subst ha
      go_wp2_with fail
      refine (addString_any _ s _ (by omega) (by omega) hsz).mono ?_
      rintro e w' ⟨⟨n5, h5, h5', rfl⟩, rfl⟩
      go_wp2
      · go_ret; exact ⟨AnsBool.mk _, rfl⟩
      · go_round
        case rel => exact ⟨k + 1, _, by omega, by omega, by omega, by go_num, rfl⟩
        case measure => simp [intOf]; omega
    · go_wp2
      all_goals (go_ret; exact ⟨AnsBool.mk _, rfl⟩)

/-- '==' on a view.Placement. -/
theorem eql67 (wa na : ByteArray) (wm nm : Int) (w : World) : (binOp .eql 67 (.agg #[.string na, .int .u64 nm]) (.agg #[.string wa, .int .u64 wm])).run Try.prog w = .ok (.bool (na.toList == wa.toList && nm == wm)) w := by
  have hS : Try.prog.underlying 67 = some (.struct (Try.prog.fieldsOf 67)) := by kernel_rfl
  have hp : Try.prog.stoodInHeld 67 = false := by kernel_rfl
  rw [run_eql_struct, show (10000 : Nat) = 9999 + 1 from rfl, run_equalIn_agg w 9999 67 _ _ hS hp]
  simp only [Program.fieldsOf, Try.underlying67]
  go_simp
  by_cases h1 : na.toList = wa.toList <;> by_cases h2 : nm = wm <;> simp [h1, h2]
theorem eqg67 : Try.prog.eqGuardType Try.prog.depth 67 = false := by kernel_rfl

/-- Begins' second answer. -/
def againB (al wa na : ByteArray) (wm nm : Int) : Bool := !(al.toList == wa.toList) && (na.toList == wa.toList && nm == wm)

set_option maxHeartbeats 800000 in
theorem begins_any (m gf wm nm : Int) (al ga wa na : ByteArray) (d : Value) (w : World) :
    Calls Try.prog 28 #[.agg #[.int .u64 m, .string al, .int .u64 gf, .string ga, d], .agg #[.string wa, .int .u64 wm], .agg #[.string na, .int .u64 nm]] w fun e w' =>
      e = .returned (.tuple #[.bool (al.toList == wa.toList), .bool (againB al wa na wm nm)]) ∧ Below w.heap.size w w' := by
  by_cases c : (al.toList == wa.toList) = true
  · have hag : againB al wa na wm nm = false := by simp [againB, c]
    rw [hag, c]
    go_enter Try.func28, Try.ntmps28
    go_wp2
    go_quiet (fail)
    go_wp2
    go_ret2
    exact ⟨rfl, below_drewN ((((Below.refl _ _).alloc (Nat.le_refl _) _).alloc (by simp) _).alloc (by simp; omega) _) _⟩
  · have c' : (al.toList == wa.toList) = false := by simpa using c
    have hag : againB al wa na wm nm = (na.toList == wa.toList && nm == wm) := by simp [againB, c']
    rw [hag, c']
    clear c hag
    have hq := eql67 wa na wm nm
    have hg := eqg67
    go_enter Try.func28, Try.ntmps28
    go_wp2
    go_quiet (fail)
    go_wp2
    go_ret2
    exact ⟨rfl, below_drewN ((((Below.refl _ _).alloc (Nat.le_refl _) _).alloc (by simp) _).alloc (by simp; omega) _) _⟩
end Go.Proofs.Qxb6614952a
