import Derived.Test.Qxb6614952aSettled
namespace Go.Proofs.Qxb6614952a
open Go.RowKit

/-- Some fs i holds below n. -/
def anyB (fs : Nat → Bool) (n : Nat) : Bool := (List.range n).any fs
theorem anyB_no {fs : Nat → Bool} {n : Nat} (h : ∀ i, i < n → fs i = false) : anyB fs n = false := by
  unfold anyB
  rw [List.any_eq_false]
  intro i hi
  rw [h i (List.mem_range.1 hi)]
  simp
theorem anyB_yes {fs : Nat → Bool} {n k : Nat} (hk : k < n) (h : fs k = true) : anyB fs n = true := by
  unfold anyB
  rw [List.any_eq_true]
  exact ⟨k, List.mem_range.2 hk, h⟩
theorem anyB_get {fs : Nat → Bool} {n : Nat} (h : anyB fs n = false) {i : Nat} (hi : i < n) : fs i = false := by
  cases e : fs i
  · rfl
  · rw [anyB_yes hi e] at h; cases h

/-- The call answers a number that is not negative just where b holds. -/
def AnsIdx (b : Bool) (e : Ending) : Prop := ∃ r : Int, e = .returned (.int .i64 r) ∧ decide (0 ≤ r) = b
theorem AnsIdx.mk {b : Bool} (r : Int) (h : decide (0 ≤ r) = b) : AnsIdx b (.returned (.int .i64 r)) := ⟨r, rfl, h⟩

set_option maxHeartbeats 800000 in
theorem indexFunc_any (g n : Nat) (fs : Nat → Bool) (ev : Nat → Value) (w : World) (hn : n ≤ 16777216) (hE : w.rowIs g 73 n ev) (hcE : ∀ i, i < n → IsErr (ev i) (fs i)) :
    Calls Try.prog 41 #[.slice (some ⟨g, 0, none⟩) n n, .func (Fn.func 38) #[] #[]] w fun e w' => AnsIdx (anyB fs n) e ∧ w' = w := by
  have HE := hide hE
  have HCE := hide hcE
  clear hE hcE
  go_enter Try.func41, Try.ntmps41
  go_wp2
  go_loop [8] (fun i => ∃ k : Nat, k ≤ n ∧ i = .int .i64 k ∧ ∀ i, i < k → fs i = false) (fun i => n - (intOf i).toNat)
  case atStart => exact ⟨0, Nat.zero_le _, rfl, fun i hi => absurd hi (Nat.not_lt_zero i)⟩
  case round =>
    obtain ⟨k, hk, rfl, hno⟩ := hrel
    have HNO := hide hno
    clear hno
    by_cases hlt : k < n
    · have hc := HE.out.cell hlt
      rcases HCE.out k hlt with ⟨hfl, hev⟩ | ⟨hfl, ad, hev⟩
      · rw [hev] at hc
        have HFL := hide hfl
        clear hfl hev
        go_wp2
        go_round
        case rel =>
          refine ⟨k + 1, by omega, by go_num, fun i hi => ?_⟩
          by_cases e : i = k
          · subst e; exact HFL.out
          · exact HNO.out i (by omega)
        case measure => simp [intOf]; omega
      · rw [hev] at hc
        have HFL := hide hfl
        clear hfl hev
        go_wp2
        go_ret
        exact ⟨AnsIdx.mk _ (by rw [anyB_yes hlt HFL.out]; simp), rfl⟩
    · obtain rfl : k = n := by omega
      go_wp2
      go_ret
      exact ⟨AnsIdx.mk _ (by rw [anyB_no HNO.out]; rfl), rfl⟩

set_option maxHeartbeats 800000 in
theorem containsFunc_any (g n : Nat) (fs : Nat → Bool) (ev : Nat → Value) (w : World) (hn : n ≤ 16777216) (hE : w.rowIs g 73 n ev) (hcE : ∀ i, i < n → IsErr (ev i) (fs i)) :
    Calls Try.prog 37 #[.slice (some ⟨g, 0, none⟩) n n, .func (Fn.func 38) #[] #[]] w fun e w' => e = .returned (.bool (anyB fs n)) ∧ w' = w := by
  have HE := hide hE
  have HCE := hide hcE
  clear hE hcE
  go_enter Try.func37, Try.ntmps37
  go_wp2_with fail
  refine (indexFunc_any g n fs ev _ hn HE.out HCE.out).mono ?_
  rintro e w' ⟨⟨r, rfl, hr⟩, rfl⟩
  have HR := hide hr
  clear hr
  go_wp2
  go_ret
  exact ⟨ret_bool HR.out, rfl⟩

set_option maxHeartbeats 800000 in
theorem silent_any (lo n : Nat) (rs : Nat → Rep) (v : Value) (w : World) (hn : n ≤ 16777216) (hv : IsAns w lo n rs v) :
    Calls Try.prog 32 #[v] w fun e w' => e = .returned (.bool (anyB (fun i => (rs i).failed) n)) ∧ Below w.heap.size w w' := by
  obtain ⟨gA, gR, gE, fA, fR, ev, _, _, _, rfl, _, _, _, _, hE, hcE⟩ := hv
  have HE := hide hE
  have HCE := hide hcE
  clear hE hcE
  go_enter Try.func32, Try.ntmps32
  go_wp2_with fail
  refine (containsFunc_any gE n (fun i => (rs i).failed) ev _ hn (rowIs_below HE.out ((Below.refl _ _).alloc (Nat.le_refl _) _)) HCE.out).mono ?_
  rintro e w' ⟨rfl, rfl⟩
  go_wp2
  go_ret
  exact ⟨rfl, (Below.refl _ _).alloc (Nat.le_refl _) _⟩

set_option maxHeartbeats 800000 in
theorem anyFailed_any (a : Option Addr) (n cap : Nat) (rs : Nat → Rep) (w : World) (hn : n ≤ 16777216) (hs : Sees w a n rs) :
    Calls Try.prog 25 #[.slice a n cap] w fun e w' => e = .returned (.bool (anyB (fun i => (rs i).failed) n)) ∧ w' = w := by
  have HS := hide hs
  clear hs
  go_enter Try.func25, Try.ntmps25
  go_wp2
  go_loop [3] (fun i => ∃ k : Nat, k ≤ n ∧ i = .int .i64 k ∧ ∀ i, i < k → (rs i).failed = false) (fun i => n - (intOf i).toNat)
  case atStart => exact ⟨0, Nat.zero_le _, rfl, fun i hi => absurd hi (Nat.not_lt_zero i)⟩
  case round =>
    obtain ⟨k, hk, rfl, hno⟩ := hrel
    have HNO := hide hno
    clear hno
    by_cases hlt : k < n
    · obtain ⟨_, b, off, ha, hblt, hc⟩ := HS.out k hlt
      have e14 := hc 14 (by omega)
      simp only [Rep.cell] at e14
      subst ha
      clear hc
      cases hf : (rs k).failed
      · rw [hf] at e14
        have HFL := hide hf
        clear hf
        go_wp2
        go_round
        case rel =>
          refine ⟨k + 1, by omega, by go_num, fun i hi => ?_⟩
          by_cases e : i = k
          · subst e; exact HFL.out
          · exact HNO.out i (by omega)
        case measure => simp [intOf]; omega
      · rw [hf] at e14
        have HFL := hide hf
        clear hf
        go_wp2
        go_ret
        exact ⟨ret_bool (anyB_yes (fs := fun i => (rs i).failed) hlt HFL.out).symm, rfl⟩
    · obtain rfl : k = n := by omega
      go_wp2
      go_ret
      exact ⟨ret_bool (anyB_no HNO.out).symm, rfl⟩
end Go.Proofs.Qxb6614952a
