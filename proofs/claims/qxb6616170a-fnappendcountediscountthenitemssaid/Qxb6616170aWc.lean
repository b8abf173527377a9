import Derived.Test.Qxb6616170aWb
import Derived.Deep.DeepCutAuto
namespace Go.Proofs.Qxb6616170a
open Go.RowKit

/-- The world has drawn, no more. -/
def Drawn (w w' : World) : Prop := ∃ m, w' = w.drewN m
theorem Drawn.refl (w : World) : Drawn w w := ⟨0, rfl⟩
theorem drewN_drewN (w : World) (a b : Nat) : (w.drewN a).drewN b = w.drewN (a + b) := by simp [World.drewN, Nat.add_assoc]
theorem Drawn.trans {a b c : World} (h : Drawn a b) (k : Drawn b c) : Drawn a c := by
  obtain ⟨m, rfl⟩ := h
  obtain ⟨l, rfl⟩ := k
  exact ⟨m + l, drewN_drewN _ _ _⟩
theorem Drawn.below {w w' : World} (h : Drawn w w') (B : Nat) : Below B w w' := by
  obtain ⟨m, rfl⟩ := h
  exact below_drewN (Below.refl _ _) _
theorem SeesB.drawn {w w' : World} {a : Option Addr} {n : Nat} {f : Nat → Int} (h : SeesB w a n f) (hd : Drawn w w') : SeesB w' a n f := h.below (hd.below _)

set_option maxHeartbeats 800000 in
theorem word_any (a : Option Addr) (n cap i : Nat) (f : Nat → Int) (W : ByteArray) (w : World) (hn : n ≤ 1048576) (hi : i < n) (hW0 : 0 < W.size) (hW1 : W.size ≤ 100) (hW : ∀ j (h : j < W.size), plainC (W[j].toNat : Int)) (hs : SeesB w a n f) :
    Calls Try.prog 31 #[.slice a n cap, .int .i64 i, .string W] w fun e w' => AnsEnd (fun r => i < r ∧ r ≤ n ∧ Plains f i r) e ∧ Drawn w w' := by
  have HS := hide hs
  have HWW := hide hW
  clear hs hW
  by_cases c : i + W.size ≤ n
  case neg =>
    go_enter Try.func31, Try.ntmps31
    go_wp2
    go_ret
    exact ⟨AnsEnd.no _, Drawn.refl _⟩
  go_enter Try.func31, Try.ntmps31
  go_wp2
  go_loopw [7] (fun t wr => ∃ j m : Nat, j ≤ W.size ∧ t = .int .i64 j ∧ wr = w.drewN m ∧ Plains f i (i + j)) (fun t _ => W.size - (intOf t).toNat)
  case atStart => exact ⟨0, 0, by omega, rfl, rfl, Plains.refl _ _⟩
  case round =>
    obtain ⟨j, m, hj, rfl, rfl, hp⟩ := hrel
    have HP := hide hp
    clear hp
    by_cases hlt : j < W.size
    · obtain ⟨b, off, ha, _, hc⟩ := HS.out (i + j) (by omega)
      subst ha
      have g1 : (i : Int) + (j : Int) < (n : Int) := by omega
      have g2 : (j : Int) < (W.size : Int) := by omega
      have g3 : ((i : Int) + (j : Int)).toNat = i + j := by omega
      have hpw := HWW.out j hlt
      have HPW := hide hpw
      clear hpw
      by_cases he : f (i + j) = (W[j].toNat : Int)
      · have hne : (f (i + j) != (W[j].toNat : Int)) = false := by simp [he]
        have HE := hide he
        clear he
        go_wp2
        go_quiet (fail)
        go_wp2
        go_roundw
        case rel => exact ⟨j + 1, _, by omega, by go_num, rfl, HP.out.snoc (by rw [HE.out]; exact HPW.out)⟩
        case measure => simp [intOf]; omega
      · have hne : (f (i + j) != (W[j].toNat : Int)) = true := by simp [he]
        clear he
        go_wp2
        go_quiet (fail)
        go_wp2
        go_ret
        exact ⟨AnsEnd.no _, _, drewN_drewN _ _ _⟩
    · go_wp2
      go_ret
      exact ⟨AnsEnd.yes (i + W.size) (by go_num) ⟨by omega, by omega, by rw [show i + W.size = i + j by omega]; exact HP.out⟩, _, rfl⟩

set_option maxRecDepth 20000 in
set_option maxHeartbeats 3200000 in
theorem number_any (a : Option Addr) (n cap i : Nat) (f : Nat → Int) (w : World) (hn : n ≤ 1048576) (hi : i ≤ n) (hs : SeesB w a n f) :
    Calls Try.prog 32 #[.slice a n cap, .int .i64 i] w fun e w' => AnsEnd (fun r => i < r ∧ r ≤ n ∧ Plains f i r) e ∧ w' = w := by
  have HS := hide hs
  clear hs
  go_enter Try.func32, Try.ntmps32
  go_upto_region 1 with fail
  go_cut [17] (fun t wc => wc = w ∧ ((t = .bool true ∧ i < n ∧ f i = 45) ∨ t = .bool false))
  case first =>
    by_cases h1 : i < n
    · obtain ⟨b, off, ha, _, hc⟩ := HS.out i h1
      subst ha
      by_cases h2 : f i = 45
      · have g : (f i == 45) = true := by simp [h2]
        have H2 := hide h2
        clear h2
        go_wp2
        go_meet
        case rel => exact ⟨rfl, .inl ⟨rfl, h1, H2.out⟩⟩
      · have g : (f i == 45) = false := by simp [h2]
        clear h2
        go_wp2
        go_meet
        case rel => exact ⟨rfl, .inr rfl⟩
    · go_wp2
      go_meet
      case rel => exact ⟨rfl, .inr rfl⟩
  case rest =>
    obtain ⟨hw, hB⟩ := hcut
    subst hw
    have HB := hide hB
    clear hB
    go_upto_if 17 with fail
    go_cut [1] (fun t wd => wd = wc ∧ ∃ k : Nat, t = .int .i64 k ∧ i ≤ k ∧ k ≤ n ∧ Plains f i k)
    case first =>
      rcases HB.out with ⟨rfl, h1, h2⟩ | rfl
      · have H2 := hide h2
        clear h2
        go_wp2
        go_meet
        case rel => exact ⟨rfl, i + 1, by go_num, by omega, by omega, (Plains.refl f i).snoc (plain_of (.inr (.inl H2.out)))⟩
      · go_wp2
        go_meet
        case rel => exact ⟨rfl, i, rfl, by omega, by omega, Plains.refl f i⟩
    case rest =>
      obtain ⟨hw, k, rfl, hik, hk, hp⟩ := hcut
      subst hw
      have HP := hide hp
      clear hp HB
      by_cases hkn : k < n
      case neg =>
        go_wp2
        go_ret
        exact ⟨AnsEnd.no _, rfl⟩
      obtain ⟨b, off, ha, hbl, hc⟩ := HS.out k hkn
      subst ha
      go_upto_if 28 with fail
      go_cut [1] (fun t we => we = wc ∧ ∃ k' : Nat, t = .int .i64 k' ∧ i < k' ∧ k' ≤ n ∧ Plains f i k')
      case first =>
        by_cases h1 : f k = 48
        · have g : (f k == 48) = true := by simp [h1]
          have H1 := hide h1
          clear h1
          go_wp2
          go_meet
          case rel => exact ⟨rfl, k + 1, by go_num, by omega, by omega, HP.out.snoc (plain_of (.inl (by rw [H1.out]; omega)))⟩
        have g : (f k == 48) = false := by simp [h1]
        clear h1
        by_cases h2 : 49 ≤ f k
        · by_cases h3 : f k ≤ 57
          · go_wp2_with fail
            refine (digits_any _ n cap k f _ hn (by omega) HS.out).mono ?_
            rintro e w' ⟨⟨r, rfl, hr1, hr2, hr3, hr4⟩, hw'⟩
            subst hw'
            have H3 := hide hr3
            have hkr : k < r := by
              by_cases e : r = k
              · subst e; exact absurd ⟨by omega, h3⟩ (hr4 hkn)
              · omega
            clear hr3 hr4
            go_wp2
            go_meet
            case rel => exact ⟨rfl, r, rfl, by omega, by omega, HP.out.join H3.out⟩
          · go_wp2
            go_ret
            exact ⟨AnsEnd.no _, rfl⟩
        · go_wp2
          go_ret
          exact ⟨AnsEnd.no _, rfl⟩
      case rest =>
        obtain ⟨hw, k2, rfl, hik2, hk2, hp2⟩ := hcut
        subst hw
        have HP2 := hide hp2
        clear hp2 HP hc
        go_upto_region 10 with fail
        go_cut [56] (fun t we => we = wc ∧ ((t = .bool true ∧ k2 < n ∧ f k2 = 46) ∨ t = .bool false))
        case first =>
          by_cases h1 : k2 < n
          · obtain ⟨b', off', ha', _, hc⟩ := HS.out k2 h1
            obtain ⟨rfl, rfl⟩ : b = b' ∧ off = off' := by cases ha'; exact ⟨rfl, rfl⟩
            clear ha'
            by_cases h2 : f k2 = 46
            · have g : (f k2 == 46) = true := by simp [h2]
              have H2 := hide h2
              clear h2
              go_wp2
              go_meet
              case rel => exact ⟨rfl, .inl ⟨rfl, h1, H2.out⟩⟩
            · have g : (f k2 == 46) = false := by simp [h2]
              clear h2
              go_wp2
              go_meet
              case rel => exact ⟨rfl, .inr rfl⟩
          · go_wp2
            go_meet
            case rel => exact ⟨rfl, .inr rfl⟩
        case rest =>
          obtain ⟨hw, hB⟩ := hcut
          subst hw
          have HB := hide hB
          clear hB
          go_upto_if 56 with fail
          go_cut [1, 5] (fun t _ we => we = wc ∧ ∃ k' : Nat, t = .int .i64 k' ∧ i < k' ∧ k' ≤ n ∧ Plains f i k')
          case first =>
            rcases HB.out with ⟨rfl, h1, h2⟩ | rfl
            · have H2 := hide h2
              clear h2
              go_wp2_with fail
              refine (digits_any _ n cap (k2 + 1) f _ hn (by omega) HS.out).mono ?_
              rintro e w' ⟨⟨r, rfl, hr1, hr2, hr3, hr4⟩, hw'⟩
              subst hw'
              have H3 := hide hr3
              clear hr3 hr4
              by_cases hr : r = k2 + 1
              · subst hr
                go_wp2
                go_ret
                exact ⟨AnsEnd.no _, rfl⟩
              · have g : ((r : Int) == (k2 : Int) + 1) = false := by simp; omega
                go_wp2
                go_meet
                case rel => exact ⟨rfl, r, rfl, by omega, by omega, (HP2.out.snoc (plain_of (.inr (.inr (.inr (.inl H2.out)))))).join H3.out⟩
            · go_wp2
              go_meet
              case rel => exact ⟨rfl, k2, rfl, by omega, by omega, HP2.out⟩
          case rest =>
            obtain ⟨hw, k3, rfl, hik3, hk3, hp3⟩ := hcut
            subst hw
            have HP3 := hide hp3
            clear hp3 HP2 HB
            go_upto_region 15 with fail
            go_cut [83] (fun t we => we = wc ∧ ((t = .bool true ∧ k3 < n ∧ (f k3 = 101 ∨ f k3 = 69)) ∨ t = .bool false))
            case first =>
              by_cases h1 : k3 < n
              · obtain ⟨b', off', ha', _, hc⟩ := HS.out k3 h1
                obtain ⟨rfl, rfl⟩ : b = b' ∧ off = off' := by cases ha'; exact ⟨rfl, rfl⟩
                clear ha'
                by_cases h2 : f k3 = 101
                · have g : (f k3 == 101) = true := by simp [h2]
                  have H2 := hide h2
                  clear h2
                  go_wp2
                  go_meet
                  case rel => exact ⟨rfl, .inl ⟨rfl, h1, .inl H2.out⟩⟩
                have g : (f k3 == 101) = false := by simp [h2]
                clear h2
                by_cases h2 : f k3 = 69
                · have g2 : (f k3 == 69) = true := by simp [h2]
                  have H2 := hide h2
                  clear h2
                  go_wp2
                  go_meet
                  case rel => exact ⟨rfl, .inl ⟨rfl, h1, .inr H2.out⟩⟩
                · have g2 : (f k3 == 69) = false := by simp [h2]
                  clear h2
                  go_wp2
                  go_meet
                  case rel => exact ⟨rfl, .inr rfl⟩
              · go_wp2
                go_meet
                case rel => exact ⟨rfl, .inr rfl⟩
            case rest =>
              obtain ⟨hw, hB⟩ := hcut
              subst hw
              have HB := hide hB
              clear hB
              go_upto_if 83 with fail
              go_cut [1, 6] (fun t _ we => we = wc ∧ ∃ k' : Nat, t = .int .i64 k' ∧ i < k' ∧ k' ≤ n ∧ Plains f i k')
              case first =>
                rcases HB.out with ⟨rfl, h1, h2⟩ | rfl
                · have HE : Hid ((48 ≤ f k3 ∧ f k3 ≤ 57) ∨ f k3 = 45 ∨ f k3 = 43 ∨ f k3 = 46 ∨ f k3 = 101 ∨ f k3 = 69 ∨ (97 ≤ f k3 ∧ f k3 ≤ 122)) := by
                    rcases h2 with h2 | h2
                    · exact .inr (.inr (.inr (.inr (.inl h2))))
                    · exact .inr (.inr (.inr (.inr (.inr (.inl h2)))))
                  clear h2
                  by_cases h4 : k3 + 1 < n
                  · obtain ⟨b', off', ha', _, hc⟩ := HS.out (k3 + 1) h4
                    obtain ⟨rfl, rfl⟩ : b = b' ∧ off = off' := by cases ha'; exact ⟨rfl, rfl⟩
                    clear ha'
                    have hc' : wc.cell? ⟨b, off + k3 + 1, none⟩ = some (.int .u8 (f (k3 + 1))) := hc
                    by_cases h5 : f (k3 + 1) = 43
                    · have g1 : (f (k3 + 1) == 43) = true := by simp [h5]
                      have H5 := hide h5
                      clear h5
                      go_wp2_with fail
                      refine (digits_any _ n cap (k3 + 1 + 1) f _ hn (by omega) HS.out).mono ?_
                      rintro e w' ⟨⟨r, rfl, hr1, hr2, hr3, hr4⟩, hw'⟩
                      subst hw'
                      have H3 := hide hr3
                      clear hr3 hr4
                      by_cases hr : r = (k3 + 1 + 1)
                      · subst hr
                        go_wp2
                        go_ret
                        exact ⟨AnsEnd.no _, rfl⟩
                      · have g' : ((r : Int) == (k3 : Int) + 1 + 1) = false := by simp; omega
                        go_wp2
                        go_meet
                        case rel => exact ⟨rfl, r, rfl, by omega, by omega, ((HP3.out.snoc (plain_of HE.out)).snoc (plain_of (.inr (.inr (.inl H5.out))))).join H3.out⟩
                    have g1 : (f (k3 + 1) == 43) = false := by simp [h5]
                    clear h5
                    by_cases h5 : f (k3 + 1) = 45
                    · have g2 : (f (k3 + 1) == 45) = true := by simp [h5]
                      have H5 := hide h5
                      clear h5
                      go_wp2_with fail
                      refine (digits_any _ n cap (k3 + 1 + 1) f _ hn (by omega) HS.out).mono ?_
                      rintro e w' ⟨⟨r, rfl, hr1, hr2, hr3, hr4⟩, hw'⟩
                      subst hw'
                      have H3 := hide hr3
                      clear hr3 hr4
                      by_cases hr : r = (k3 + 1 + 1)
                      · subst hr
                        go_wp2
                        go_ret
                        exact ⟨AnsEnd.no _, rfl⟩
                      · have g' : ((r : Int) == (k3 : Int) + 1 + 1) = false := by simp; omega
                        go_wp2
                        go_meet
                        case rel => exact ⟨rfl, r, rfl, by omega, by omega, ((HP3.out.snoc (plain_of HE.out)).snoc (plain_of (.inr (.inl H5.out)))).join H3.out⟩
                    have g2 : (f (k3 + 1) == 45) = false := by simp [h5]
                    clear h5
                    go_wp2_with fail
                    refine (digits_any _ n cap (k3 + 1) f _ hn (by omega) HS.out).mono ?_
                    rintro e w' ⟨⟨r, rfl, hr1, hr2, hr3, hr4⟩, hw'⟩
                    subst hw'
                    have H3 := hide hr3
                    clear hr3 hr4
                    by_cases hr : r = (k3 + 1)
                    · subst hr
                      go_wp2
                      go_ret
                      exact ⟨AnsEnd.no _, rfl⟩
                    · have g' : ((r : Int) == (k3 : Int) + 1) = false := by simp; omega
                      go_wp2
                      go_meet
                      case rel => exact ⟨rfl, r, rfl, by omega, by omega, (HP3.out.snoc (plain_of HE.out)).join H3.out⟩
                  · go_wp2_with fail
                    refine (digits_any _ n cap (k3 + 1) f _ hn (by omega) HS.out).mono ?_
                    rintro e w' ⟨⟨r, rfl, hr1, hr2, hr3, hr4⟩, hw'⟩
                    subst hw'
                    have H3 := hide hr3
                    clear hr3 hr4
                    by_cases hr : r = (k3 + 1)
                    · subst hr
                      go_wp2
                      go_ret
                      exact ⟨AnsEnd.no _, rfl⟩
                    · have g' : ((r : Int) == (k3 : Int) + 1) = false := by simp; omega
                      go_wp2
                      go_meet
                      case rel => exact ⟨rfl, r, rfl, by omega, by omega, (HP3.out.snoc (plain_of HE.out)).join H3.out⟩
                · go_wp2
                  go_meet
                  case rel => exact ⟨rfl, k3, rfl, by omega, by omega, HP3.out⟩
              case rest =>
                obtain ⟨hw, k4, rfl, hik4, hk4, hp4⟩ := hcut
                subst hw
                have HP4 := hide hp4
                clear hp4
                go_wp2
                go_ret
                exact ⟨AnsEnd.yes k4 rfl ⟨hik4, hk4, HP4.out⟩, rfl⟩
end Go.Proofs.Qxb6616170a
