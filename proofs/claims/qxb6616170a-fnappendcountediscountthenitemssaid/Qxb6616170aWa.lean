import Derived.Test.Qxb6616170aRows
import Derived.Test.Qxb6616170aPlain
import Derived.WalkKit
import Derived.WalkSpells
import Derived.WalkLawsBesides
import Derived.Deep.QuietTactic
import Derived.BigQuiet
import Derived.Deep.OwnRows
namespace Go.Proofs.Qxb6616170a
open Go.RowKit

theorem hide {p : Prop} (h : p) : Hid p := h
theorem ret_int {k : IntKind} {a b : Int} (h : a = b) : Ending.returned (.int k a) = .returned (.int k b) := by rw [h]

/-- The slice a, n holds the bytes f 0 .. f (n - 1). -/
def SeesB (w : World) (a : Option Addr) (n : Nat) (f : Nat → Int) : Prop :=
  ∀ i, i < n → ∃ b off, a = some ⟨b, off, none⟩ ∧ b < w.heap.size ∧ w.cell? ⟨b, off + i, none⟩ = some (.int .u8 (f i))
theorem SeesB.below {w w' : World} {a : Option Addr} {n : Nat} {f : Nat → Int} (h : SeesB w a n f) (hb : Below w.heap.size w w') : SeesB w' a n f := by
  intro i hi
  obtain ⟨b, off, ha, hlt, hc⟩ := h i hi
  exact ⟨b, off, ha, Nat.lt_of_lt_of_le hlt hb.size, (hb.cell (p := ⟨b, off + i, none⟩) hlt).trans hc⟩

/-- The call answers -1, or a place that meets P. -/
def AnsEnd (P : Nat → Prop) (e : Ending) : Prop := e = .returned (.int .i64 (-1)) ∨ ∃ r : Nat, e = .returned (.int .i64 r) ∧ P r
theorem AnsEnd.no (P : Nat → Prop) : AnsEnd P (.returned (.int .i64 (-1))) := .inl rfl
theorem AnsEnd.yes {P : Nat → Prop} {x : Int} (r : Nat) (hx : x = (r : Int)) (h : P r) : AnsEnd P (.returned (.int .i64 x)) := .inr ⟨r, by rw [hx], h⟩

set_option maxHeartbeats 800000 in
theorem zzWS_any (a : Option Addr) (n cap i : Nat) (f : Nat → Int) (w : World) (hn : n ≤ 1048576) (hi : i ≤ n) (hs : SeesB w a n f) :
    Calls Try.prog 23 #[.slice a n cap, .int .i64 i] w fun e w' => e = .returned (.int .i64 (ws f n i)) ∧ w' = w := by
  have HS := hide hs
  clear hs
  go_enter Try.func23, Try.ntmps23
  go_wp2
  go_loop [1] (fun t => ∃ k : Nat, k ≤ n ∧ t = .int .i64 k ∧ ws f n k = ws f n i) (fun t => n - (intOf t).toNat)
  case atStart => exact ⟨i, hi, rfl, rfl⟩
  case round =>
    obtain ⟨k, hk, rfl, hw⟩ := hrel
    have HW := hide hw
    clear hw
    by_cases hlt : k < n
    · obtain ⟨b, off, ha, _, hc⟩ := HS.out k hlt
      subst ha
      cases hq : isWs (f k)
      · have hst : ws f n k = k := ws_stop (by rw [hq]; simp)
        have HST := hide hst
        have h1 : (f k == 32) = false := by simp [isWs] at hq; simp [hq]
        have h2 : (f k == 9) = false := by simp [isWs] at hq; simp [hq]
        have h3 : (f k == 10) = false := by simp [isWs] at hq; simp [hq]
        have h4 : (f k == 13) = false := by simp [isWs] at hq; simp [hq]
        clear hq hst
        go_wp2
        go_ret
        exact ⟨ret_int (by rw [← HW.out, HST.out]), rfl⟩
      · have hst := ws_step (f := f) (n := n) (i := k) hlt hq
        have HST := hide hst
        clear hst
        simp only [isWs, Bool.or_eq_true] at hq
        rcases hq with ((h1 | h1) | h1) | h1
        · go_wp2
          go_round
          case rel => exact ⟨k + 1, by omega, by go_num, by rw [← HST.out, HW.out]⟩
          case measure => simp [intOf]; omega
        · have g1 : (f k == 32) = false := by simp at h1; simp [h1]
          go_wp2
          go_round
          case rel => exact ⟨k + 1, by omega, by go_num, by rw [← HST.out, HW.out]⟩
          case measure => simp [intOf]; omega
        · have g1 : (f k == 32) = false := by simp at h1; simp [h1]
          have g2 : (f k == 9) = false := by simp at h1; simp [h1]
          go_wp2
          go_round
          case rel => exact ⟨k + 1, by omega, by go_num, by rw [← HST.out, HW.out]⟩
          case measure => simp [intOf]; omega
        · have g1 : (f k == 32) = false := by simp at h1; simp [h1]
          have g2 : (f k == 9) = false := by simp at h1; simp [h1]
          have g3 : (f k == 10) = false := by simp at h1; simp [h1]
          go_wp2
          go_round
          case rel => exact ⟨k + 1, by omega, by go_num, by rw [← HST.out, HW.out]⟩
          case measure => simp [intOf]; omega
    · have hst : ws f n k = k := ws_stop (by omega)
      have HST := hide hst
      clear hst
      go_wp2
      go_ret
      exact ⟨ret_int (by rw [← HW.out, HST.out]), rfl⟩

set_option maxHeartbeats 800000 in
theorem hex_any (c : Int) (w : World) : Calls Try.prog 30 #[.int .u8 c] w fun e w' => e = .returned (.bool (hexB c)) ∧ w' = w := by
  by_cases h1 : 48 ≤ c ∧ c ≤ 57
  · have e : hexB c = true := by simp [hexB]; omega
    rw [e]
    obtain ⟨h1, h2⟩ := h1
    clear e
    go_enter Try.func30, Try.ntmps30
    go_wp2
    go_ret
    exact ⟨rfl, rfl⟩
  by_cases h2 : 97 ≤ c ∧ c ≤ 102
  · have e : hexB c = true := by simp [hexB]; omega
    rw [e]
    obtain ⟨h2, h3⟩ := h2
    have h4 : 57 < c := by omega
    clear e h1
    go_enter Try.func30, Try.ntmps30
    go_wp2
    go_ret
    exact ⟨rfl, rfl⟩
  by_cases h3 : 65 ≤ c ∧ c ≤ 70
  · have e : hexB c = true := by simp [hexB]; omega
    rw [e]
    obtain ⟨h3, h4⟩ := h3
    have h5 : 57 < c := by omega
    have h6 : c < 97 := by omega
    clear e h1 h2
    go_enter Try.func30, Try.ntmps30
    go_wp2
    go_ret
    exact ⟨rfl, rfl⟩
  have e : hexB c = false := by
    cases hh : hexB c
    · rfl
    · simp [hexB] at hh; omega
  rw [e]
  clear e
  go_enter Try.func30, Try.ntmps30
  go_wp2
  all_goals (go_ret; exact ⟨by first | rfl | (simp; omega) | simp, rfl⟩)
set_option maxHeartbeats 800000 in
theorem skip_any (a : Option Addr) (n cap i : Nat) (f : Nat → Int) (w : World) (hn : n ≤ 1048576) (hi : i ≤ n) (hs : SeesB w a n f) :
    Calls Try.prog 39 #[.slice a n cap, .int .i64 i] w fun e w' => e = .returned (.int .i64 (ws f n i)) ∧ w' = w := by
  have HS := hide hs
  clear hs
  go_enter Try.func39, Try.ntmps39
  go_wp2
  go_loop [1] (fun t => ∃ k : Nat, k ≤ n ∧ t = .int .i64 k ∧ ws f n k = ws f n i) (fun t => n - (intOf t).toNat)
  case atStart => exact ⟨i, hi, rfl, rfl⟩
  case round =>
    obtain ⟨k, hk, rfl, hw⟩ := hrel
    have HW := hide hw
    clear hw
    by_cases hlt : k < n
    · obtain ⟨b, off, ha, _, hc⟩ := HS.out k hlt
      subst ha
      cases hq : isWs (f k)
      · have hst : ws f n k = k := ws_stop (by rw [hq]; simp)
        have HST := hide hst
        have h1 : (f k == 32) = false := by simp [isWs] at hq; simp [hq]
        have h2 : (f k == 9) = false := by simp [isWs] at hq; simp [hq]
        have h3 : (f k == 10) = false := by simp [isWs] at hq; simp [hq]
        have h4 : (f k == 13) = false := by simp [isWs] at hq; simp [hq]
        clear hq hst
        go_wp2
        go_ret
        exact ⟨ret_int (by rw [← HW.out, HST.out]), rfl⟩
      · have hst := ws_step (f := f) (n := n) (i := k) hlt hq
        have HST := hide hst
        clear hst
        simp only [isWs, Bool.or_eq_true] at hq
        rcases hq with ((h1 | h1) | h1) | h1
        · go_wp2
          go_round
          case rel => exact ⟨k + 1, by omega, by go_num, by rw [← HST.out, HW.out]⟩
          case measure => simp [intOf]; omega
        · have g1 : (f k == 32) = false := by simp at h1; simp [h1]
          go_wp2
          go_round
          case rel => exact ⟨k + 1, by omega, by go_num, by rw [← HST.out, HW.out]⟩
          case measure => simp [intOf]; omega
        · have g1 : (f k == 32) = false := by simp at h1; simp [h1]
          have g2 : (f k == 9) = false := by simp at h1; simp [h1]
          go_wp2
          go_round
          case rel => exact ⟨k + 1, by omega, by go_num, by rw [← HST.out, HW.out]⟩
          case measure => simp [intOf]; omega
        · have g1 : (f k == 32) = false := by simp at h1; simp [h1]
          have g2 : (f k == 9) = false := by simp at h1; simp [h1]
          have g3 : (f k == 10) = false := by simp at h1; simp [h1]
          go_wp2
          go_round
          case rel => exact ⟨k + 1, by omega, by go_num, by rw [← HST.out, HW.out]⟩
          case measure => simp [intOf]; omega
    · have hst : ws f n k = k := ws_stop (by omega)
      have HST := hide hst
      clear hst
      go_wp2
      go_ret
      exact ⟨ret_int (by rw [← HW.out, HST.out]), rfl⟩

set_option maxHeartbeats 800000 in
theorem digits_any (a : Option Addr) (n cap i : Nat) (f : Nat → Int) (w : World) (hn : n ≤ 1048576) (hi : i ≤ n) (hs : SeesB w a n f) :
    Calls Try.prog 38 #[.slice a n cap, .int .i64 i] w fun e w' => (∃ r : Nat, e = .returned (.int .i64 r) ∧ i ≤ r ∧ r ≤ n ∧ Plains f i r ∧ (r < n → ¬ (48 ≤ f r ∧ f r ≤ 57))) ∧ w' = w := by
  have HS := hide hs
  clear hs
  go_enter Try.func38, Try.ntmps38
  go_wp2
  go_loop [1] (fun t => ∃ k : Nat, i ≤ k ∧ k ≤ n ∧ t = .int .i64 k ∧ Plains f i k) (fun t => n - (intOf t).toNat)
  case atStart => exact ⟨i, Nat.le_refl _, hi, rfl, Plains.refl _ _⟩
  case round =>
    obtain ⟨k, hik, hk, rfl, hw⟩ := hrel
    have HW := hide hw
    clear hw
    by_cases hlt : k < n
    · obtain ⟨b, off, ha, _, hc⟩ := HS.out k hlt
      subst ha
      by_cases h1 : 48 ≤ f k
      · by_cases h2 : f k ≤ 57
        · go_wp2
          go_round
          case rel => exact ⟨k + 1, by omega, by omega, by go_num, HW.out.snoc (plain_of (.inl ⟨h1, h2⟩))⟩
          case measure => simp [intOf]; omega
        · go_wp2
          go_ret
          exact ⟨⟨k, rfl, hik, hk, HW.out, fun _ => by omega⟩, rfl⟩
      · go_wp2
        go_ret
        exact ⟨⟨k, rfl, hik, hk, HW.out, fun _ => by omega⟩, rfl⟩
    · go_wp2
      go_ret
      exact ⟨⟨k, rfl, hik, hk, HW.out, fun _ => by omega⟩, rfl⟩

set_option maxHeartbeats 800000 in
theorem stringEnd_any (a : Option Addr) (n cap i r : Nat) (f : Nat → Int) (w : World) (hn : n ≤ 1048576) (hr : SEnds f n (i + 1) r) (hs : SeesB w a n f) :
    Calls Try.prog 40 #[.slice a n cap, .int .i64 i] w fun e w' => e = .returned (.int .i64 r) ∧ w' = w := by
  have HS := hide hs
  have hbd := hr.bd
  have HR := hide hr
  clear hs hr
  go_enter Try.func40, Try.ntmps40
  go_wp2
  go_loop [1] (fun t => ∃ k : Nat, t = .int .i64 k ∧ SEnds f n k r) (fun t => n - (intOf t).toNat)
  case atStart => exact ⟨i + 1, by go_num, HR.out⟩
  case round =>
    obtain ⟨k, rfl, hk⟩ := hrel
    obtain ⟨hlt, hcase⟩ := hk.inv
    obtain ⟨b, off, ha, _, hc⟩ := HS.out k hlt
    subst ha
    clear hk
    rcases hcase with ⟨h1, h2⟩ | ⟨h1, h2⟩ | ⟨h1, h2, h3⟩
    · have g : (f k != 34) = false := by simp [h1]
      have H2 := hide h2
      clear h1 h2
      go_wp2
      go_ret
      exact ⟨ret_int (by rw [H2.out]; omega), rfl⟩
    · have g : (f k != 34) = true := by simp [h1]
      have g2 : (f k == 92) = true := by simp [h1]
      have H2 := hide h2
      have hb2 := h2.bd
      clear h1 h2
      go_wp2
      go_round
      case rel => exact ⟨k + 2, by go_num, H2.out⟩
      case measure => simp [intOf]; omega
    · have g : (f k != 34) = true := by simp [h1]
      have g2 : (f k == 92) = false := by simp [h2]
      have H3 := hide h3
      clear h1 h2 h3
      go_wp2
      go_round
      case rel => exact ⟨k + 1, by go_num, H3.out⟩
      case measure => simp [intOf]; omega
end Go.Proofs.Qxb6616170a
