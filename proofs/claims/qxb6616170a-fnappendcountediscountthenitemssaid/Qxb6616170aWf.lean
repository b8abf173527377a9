import Derived.Test.Qxb6616170aWd
namespace Go.Proofs.Qxb6616170a
open Go.RowKit

def delim (c : Int) : Prop := c = 44 ∨ c = 93 ∨ c = 125 ∨ isWs c = true
theorem ReachN.le {f : Nat → Int} {n j e : Nat} : ∀ (m i d : Nat), ReachN f n m i d j e → i ≤ j := by
  intro m
  induction m with
  | zero => rintro i d ⟨rfl, rfl⟩; exact Nat.le_refl _
  | succ m ih =>
    rintro i d ⟨hi, h⟩
    rcases h with ⟨h1, r, h2, h3⟩ | ⟨h1, h3⟩ | ⟨h1, h2, h3⟩ | ⟨h1, h3⟩
    · have := ih _ _ h3; have := h2.bd; omega
    · have := ih _ _ h3; omega
    · have := ih _ _ h3; omega
    · have := ih _ _ h3; omega

theorem delim_cases {c : Int} (h : delim c) : (c == 44) = true ∨ ((c == 44) = false ∧ (c == 93) = true) ∨ ((c == 44) = false ∧ (c == 93) = false ∧ (c == 125) = true) ∨ ((c == 44) = false ∧ (c == 93) = false ∧ (c == 125) = false ∧ (c == 32) = true)
    ∨ ((c == 44) = false ∧ (c == 93) = false ∧ (c == 125) = false ∧ (c == 32) = false ∧ (c == 9) = true) ∨ ((c == 44) = false ∧ (c == 93) = false ∧ (c == 125) = false ∧ (c == 32) = false ∧ (c == 9) = false ∧ (c == 10) = true)
    ∨ ((c == 44) = false ∧ (c == 93) = false ∧ (c == 125) = false ∧ (c == 32) = false ∧ (c == 9) = false ∧ (c == 10) = false ∧ (c == 13) = true) := by
  simp only [delim, isWs, Bool.or_eq_true, beq_iff_eq] at h
  simp only [beq_iff_eq, beq_eq_false_iff_ne]
  omega

set_option maxRecDepth 20000 in
set_option maxHeartbeats 3200000 in
theorem valueEnd_any (a : Option Addr) (n cap i r : Nat) (f : Nat → Int) (w : World) (hn : n ≤ 1048576) (hv : ValOK f n i r) (hr : r < n) (hd : delim (f r)) (hs : SeesB w a n f) :
    Calls Try.prog 41 #[.slice a n cap, .int .i64 i] w fun e w' => e = .returned (.int .i64 r) ∧ w' = w := by
  have HS := hide hs
  have HD := hide hd
  clear hs hd
  obtain ⟨hir, _, hv⟩ := hv
  obtain ⟨b, off, ha, _, hc⟩ := HS.out i (by omega)
  subst ha
  go_enter Try.func41, Try.ntmps41
  rcases hv with ⟨h1, h2⟩ | h | h
  · have g : (f i == 34) = true := by simp [h1]
    have H2 := hide h2
    clear h1 h2
    go_wp2_with fail
    refine (stringEnd_any _ n cap i r f _ hn H2.out HS.out).mono ?_
    rintro e w1 ⟨rfl, hw1⟩
    subst hw1
    go_wp2
    go_ret
    exact ⟨rfl, rfl⟩
  · have HR := hide h.reach
    have HCL := hide h.2.2.2.1
    have hop := h.1
    clear h
    have g : (f i == 34) = false := by rcases hop with e | e <;> simp [e]
    have HOP := hide hop
    clear hop
    go_upto_region 4 with fail
    go_cut [15] (fun t wc => wc = w ∧ (t = .bool true ∨ (t = .bool false ∧ f i = 91)))
    case first =>
      rcases HOP.out with e | e
      · have g1 : (f i == 123) = false := by simp [e]
        have E := hide e
        clear e
        go_wp2
        go_meet
        case rel => exact ⟨rfl, .inr ⟨rfl, E.out⟩⟩
      · have g1 : (f i == 123) = true := by simp [e]
        clear e
        go_wp2
        go_meet
        case rel => exact ⟨rfl, .inl rfl⟩
    case rest =>
      obtain ⟨hw, hB⟩ := hcut
      subst hw
      have HB := hide hB
      clear hB
      go_upto_if 15 with fail
      go_cut [15] (fun t wd => wd = wc ∧ t = .bool true)
      case first =>
        rcases HB.out with rfl | ⟨rfl, e⟩
        · go_wp2
          go_meet
          case rel => exact ⟨rfl, rfl⟩
        · have g1 : (f i == 91) = true := by simp [e]
          clear e
          go_wp2
          go_meet
          case rel => exact ⟨rfl, rfl⟩
      case rest =>
        obtain ⟨hw, rfl⟩ := hcut
        subst hw
        clear HB hc
        go_wp2
        go_loop [1, 5] (fun t t5 => ∃ k d : Nat, t = .int .i64 k ∧ t5 = .int .i64 d ∧ Reach f n k d (r - 1) 1 ∧ d ≤ k) (fun t _ => n - (intOf t).toNat)
        case atStart => exact ⟨i, 0, rfl, rfl, HR.out, Nat.zero_le _⟩
        case round =>
          obtain ⟨k, d, rfl, rfl, ⟨m, hm⟩, hdk⟩ := hrel
          have hkr : k ≤ r - 1 := ReachN.le m k d hm
          have hkn : k < n := by omega
          obtain ⟨b', off', ha', _, hc⟩ := HS.out k hkn
          obtain ⟨rfl, rfl⟩ : b = b' ∧ off = off' := by cases ha'; exact ⟨rfl, rfl⟩
          clear ha'
          cases m with
          | zero =>
            obtain ⟨rfl, rfl⟩ := hm
            have gz : ((1 : Nat) : Int) - 1 = 0 := by omega
            rcases HCL.out with e | e
            · have q1 : (f (r - 1) == 34) = false := by simp [e]
              have q2 : (f (r - 1) == 123) = false := by simp [e]
              have q3 : (f (r - 1) == 91) = false := by simp [e]
              have q4 : (f (r - 1) == 125) = false := by simp [e]
              have q5 : (f (r - 1) == 93) = true := by simp [e]
              clear e
              go_wp2
              go_ret
              exact ⟨ret_int (by omega), rfl⟩
            · have q1 : (f (r - 1) == 34) = false := by simp [e]
              have q2 : (f (r - 1) == 123) = false := by simp [e]
              have q3 : (f (r - 1) == 91) = false := by simp [e]
              have q4 : (f (r - 1) == 125) = true := by simp [e]
              clear e
              go_wp2
              go_ret
              exact ⟨ret_int (by omega), rfl⟩
          | succ m =>
            obtain ⟨_, hm⟩ := hm
            rcases hm with ⟨e, z, hz, hm⟩ | ⟨e | e, hm⟩ | ⟨e | e, hd2, hm⟩ | ⟨⟨e1, e2, e3, e4, e5⟩, hm⟩
            · have q1 : (f k == 34) = true := by simp [e]
              have HZ := hide hz
              have hz1 := hz.bd.1
              have hz2 := hz.bd.2
              have HM := hide hm
              clear e hz hm
              go_wp2_with fail
              refine (stringEnd_any _ n cap k z f _ hn HZ.out HS.out).mono ?_
              rintro e w1 ⟨rfl, hw1⟩
              subst hw1
              go_wp2
              go_round
              case rel => exact ⟨z, d, by go_num, rfl, ⟨m, HM.out⟩, by omega⟩
              case measure => simp [intOf]; omega
            · have q1 : (f k == 34) = false := by simp [e]
              have q2 : (f k == 123) = false := by simp [e]
              have q3 : (f k == 91) = true := by simp [e]
              have HM := hide hm
              clear e hm
              go_wp2
              go_round
              case rel => exact ⟨k + 1, d + 1, by go_num, by go_num, ⟨m, HM.out⟩, by omega⟩
              case measure => simp [intOf]; omega
            · have q1 : (f k == 34) = false := by simp [e]
              have q2 : (f k == 123) = true := by simp [e]
              have HM := hide hm
              clear e hm
              go_wp2
              go_round
              case rel => exact ⟨k + 1, d + 1, by go_num, by go_num, ⟨m, HM.out⟩, by omega⟩
              case measure => simp [intOf]; omega
            · have q1 : (f k == 34) = false := by simp [e]
              have q2 : (f k == 123) = false := by simp [e]
              have q3 : (f k == 91) = false := by simp [e]
              have q4 : (f k == 125) = false := by simp [e]
              have q5 : (f k == 93) = true := by simp [e]
              have q6 : ((d : Int) - 1 == 0) = false := by simp; omega
              have HM := hide hm
              clear e hm
              go_wp2
              go_round
              case rel => exact ⟨k + 1, d - 1, by go_num, by go_num, ⟨m, HM.out⟩, by omega⟩
              case measure => simp [intOf]; omega
            · have q1 : (f k == 34) = false := by simp [e]
              have q2 : (f k == 123) = false := by simp [e]
              have q3 : (f k == 91) = false := by simp [e]
              have q4 : (f k == 125) = true := by simp [e]
              have q6 : ((d : Int) - 1 == 0) = false := by simp; omega
              have HM := hide hm
              clear e hm
              go_wp2
              go_round
              case rel => exact ⟨k + 1, d - 1, by go_num, by go_num, ⟨m, HM.out⟩, by omega⟩
              case measure => simp [intOf]; omega
            · have q1 : (f k == 34) = false := by simp [e1]
              have q2 : (f k == 123) = false := by simp [e3]
              have q3 : (f k == 91) = false := by simp [e2]
              have q4 : (f k == 125) = false := by simp [e5]
              have q5 : (f k == 93) = false := by simp [e4]
              have HM := hide hm
              clear e1 e2 e3 e4 e5 hm
              go_wp2
              go_round
              case rel => exact ⟨k + 1, d, by go_num, rfl, ⟨m, HM.out⟩, by omega⟩
              case measure => simp [intOf]; omega
  · have g1 := (h i (Nat.le_refl _) hir)
    have g34 : (f i == 34) = false := by simp [g1.1]
    have g91 : (f i == 91) = false := by simp [g1.2.2.1]
    have g123 : (f i == 123) = false := by simp [g1.2.2.2.2.1]
    have HP := hide h
    clear h g1
    go_wp2
    clear hc
    go_loop [1] (fun t => ∃ k : Nat, i ≤ k ∧ k ≤ r ∧ t = .int .i64 k) (fun t => n - (intOf t).toNat)
    case atStart => exact ⟨i, Nat.le_refl _, by omega, rfl⟩
    case round =>
      obtain ⟨k, hk1, hk2, rfl⟩ := hrel
      have hkn : k < n := by omega
      obtain ⟨b', off', ha', _, hc⟩ := HS.out k hkn
      obtain ⟨rfl, rfl⟩ : b = b' ∧ off = off' := by cases ha'; exact ⟨rfl, rfl⟩
      clear ha'
      by_cases hkr : k < r
      · have p := HP.out k hk1 hkr
        have q1 : (f k == 44) = false := by simp [p.2.1]
        have q2 : (f k == 93) = false := by simp [p.2.2.2.1]
        have q3 : (f k == 125) = false := by simp [p.2.2.2.2.2.1]
        have p7 := p.2.2.2.2.2.2
        simp only [isWs, Bool.or_eq_false_iff] at p7
        obtain ⟨⟨⟨q4, q5⟩, q6⟩, q7⟩ := p7
        clear p
        go_wp2
        go_round
        case rel => exact ⟨k + 1, by omega, by omega, by go_num⟩
        case measure => simp [intOf]; omega
      · have ek : k = r := by omega
        subst ek
        rcases delim_cases HD.out with q | ⟨q0, q⟩ | ⟨q0, q1, q⟩ | ⟨q0, q1, q2, q⟩ | ⟨q0, q1, q2, q3, q⟩ | ⟨q0, q1, q2, q3, q4, q⟩ | ⟨q0, q1, q2, q3, q4, q5, q⟩
        all_goals
          go_wp2
          go_ret
          exact ⟨rfl, rfl⟩
end Go.Proofs.Qxb6616170a
