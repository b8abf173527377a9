import Derived.Test.Qxb6616170aWa
namespace Go.Proofs.Qxb6616170a
open Go.RowKit

set_option maxHeartbeats 1600000 in
theorem zzString_any (a : Option Addr) (n cap i : Nat) (f : Nat → Int) (w : World) (hn : n ≤ 1048576) (hi : i < n) (hs : SeesB w a n f) :
    Calls Try.prog 24 #[.slice a n cap, .int .i64 i] w fun e w' => AnsEnd (fun r => SEnds f n (i + 1) r) e ∧ w' = w := by
  have HS := hide hs
  clear hs
  go_enter Try.func24, Try.ntmps24
  go_wp2
  go_loop [1] (fun t => ∃ k : Nat, k ≤ n ∧ t = .int .i64 k ∧ ∀ r, SEnds f n k r → SEnds f n (i + 1) r) (fun t => n - (intOf t).toNat)
  case atStart => exact ⟨i + 1, by omega, by go_num, fun r h => h⟩
  case round =>
    obtain ⟨k, hk, rfl, hw⟩ := hrel
    have HW := hide hw
    clear hw
    by_cases hlt : k < n
    case neg =>
      go_wp2
      go_ret
      exact ⟨AnsEnd.no _, rfl⟩
    obtain ⟨b, off, ha, _, hc⟩ := HS.out k hlt
    subst ha
    by_cases h1 : f k = 34
    · have g : (f k == 34) = true := by simp [h1]
      have H1 := hide h1
      clear h1
      go_wp2
      go_ret
      exact ⟨AnsEnd.yes (k + 1) (by go_num) (HW.out _ (.quote hlt H1.out)), rfl⟩
    have g1 : (f k == 34) = false := by simp [h1]
    by_cases h2 : f k < 32
    · have H1 := hide h1
      clear h1
      go_wp2
      go_ret
      exact ⟨AnsEnd.no _, rfl⟩
    by_cases h3 : f k = 92
    case neg =>
      have g3 : (f k != 92) = true := by simp [h3]
      have H1 := hide h1
      have H3 := hide h3
      clear h1 h3
      go_wp2
      go_round
      case rel => exact ⟨k + 1, by omega, by go_num, fun r hr => HW.out r (.skip hlt H1.out H3.out hr)⟩
      case measure => simp [intOf]; omega
    have g3 : (f k != 92) = false := by simp [h3]
    have H3 := hide h3
    clear h1 h3
    by_cases h4 : k + 1 < n
    case neg =>
      go_wp2
      go_ret
      exact ⟨AnsEnd.no _, rfl⟩
    obtain ⟨b', off', ha', _, hc2⟩ := HS.out (k + 1) h4
    obtain ⟨rfl, rfl⟩ : b = b' ∧ off = off' := by cases ha'; exact ⟨rfl, rfl⟩
    clear ha'
    have hc2' : w.cell? ⟨b, off + k + 1, none⟩ = some (.int .u8 (f (k + 1))) := hc2
    by_cases h5 : f (k + 1) = 117
    · have q1 : (f (k + 1) == 34) = false := by simp [h5]
      have q2 : (f (k + 1) == 92) = false := by simp [h5]
      have q3 : (f (k + 1) == 47) = false := by simp [h5]
      have q4 : (f (k + 1) == 98) = false := by simp [h5]
      have q5 : (f (k + 1) == 102) = false := by simp [h5]
      have q6 : (f (k + 1) == 110) = false := by simp [h5]
      have q7 : (f (k + 1) == 114) = false := by simp [h5]
      have q8 : (f (k + 1) == 116) = false := by simp [h5]
      have q9 : (f (k + 1) == 117) = true := by simp [h5]
      clear h5
      by_cases h6 : k + 6 ≤ n
      case neg =>
        go_wp2
        go_ret
        exact ⟨AnsEnd.no _, rfl⟩
      go_wp2
      go_loop [6] (fun t => ∃ j : Nat, k + 2 ≤ j ∧ j ≤ k + 6 ∧ t = .int .i64 j ∧ ∀ u, k + 2 ≤ u → u < j → hexB (f u) = true) (fun t => k + 6 - (intOf t).toNat)
      case atStart => exact ⟨k + 2, Nat.le_refl _, by omega, by go_num, fun u h1 h2 => by omega⟩
      case round =>
        obtain ⟨j, hj1, hj2, rfl, hx⟩ := hrel
        have HXX := hide hx
        clear hx
        by_cases hj : j < k + 6
        · obtain ⟨b'', off'', ha'', _, hc3⟩ := HS.out j (by omega)
          obtain ⟨rfl, rfl⟩ : b = b'' ∧ off = off'' := by cases ha''; exact ⟨rfl, rfl⟩
          clear ha''
          have hjn : (j : Int) < (n : Int) := by omega
          go_wp2_with fail
          refine (hex_any (f j) _).mono ?_
          rintro e w' ⟨rfl, hw'⟩
          subst hw'
          cases hh : hexB (f j)
          · go_wp2
            go_ret
            exact ⟨AnsEnd.no _, rfl⟩
          · have HH := hide hh
            clear hh
            go_wp2
            go_round
            case rel =>
              refine ⟨j + 1, by omega, by omega, by go_num, fun u h1 h2 => ?_⟩
              by_cases e : u = j
              · subst e; exact HH.out
              · exact HXX.out u h1 (by omega)
            case measure => simp [intOf]; omega
        · obtain rfl : j = k + 6 := by omega
          go_wp2
          go_round
          case rel => exact ⟨k + 6, h6, by go_num, fun r hr => HW.out r (.uni h6 H3.out HXX.out hr)⟩
          case measure => simp [intOf]; omega
    · have g5 : (f (k + 1) == 117) = false := by simp [h5]
      clear h5
      go_wp2
      all_goals first
        | (go_ret; exact ⟨AnsEnd.no _, rfl⟩)
        | (go_round
           case rel => exact ⟨k + 2, by omega, by go_num, fun r hr => HW.out r (.back hlt H3.out hr)⟩
           case measure => simp [intOf]; omega)
end Go.Proofs.Qxb6616170a
