import Derived.Test.Qxb6615730aCanA
import Derived.Deep.DeepCutAuto
namespace Go.Proofs.Qxb6615730a.Can
open Go.RowKit

/-- The plain law: over the piece that holds p as over the whole. -/
theorem at_take (f : Nat → Int) (n k p : Nat) (b : Int) (hk : k ≤ n) (hp : p < k) : atB f k p b = atB f n p b := by rw [atB_in hp, atB_in (by omega)]
theorem at_drop (f : Nat → Int) (n k p : Nat) (b : Int) (hp : ¬ p < k) : atB (fun i => f (k + i)) (n - k) (p - k) b = atB f n p b := by
  by_cases c : p < n
  · rw [atB_in c, atB_in (by omega), show k + (p - k) = p by omega]
  · rw [atB_out c, atB_out (by omega)]

set_option maxHeartbeats 800000 in
theorem canon_any (a : Option Addr) (n cap : Nat) (f : Nat → Int) (pI kI b : Int) (w : World) (hn : n ≤ maxLen) (ha : a = none → n = 0) (hs : SeesB w a n f) :
    Calls Try.prog 3 #[.slice a n cap, .int .i64 pI, .int .i64 kI, .int .u8 b] w fun e w' => e = .returned (.bool true) ∧ Below w.heap.size w w' := by
  have HS := hide hs
  have HA := hide ha
  clear hs ha
  by_cases c1 : n ≤ 1048576
  case neg =>
    go_enter Try.func3, Try.ntmps3
    go_wp2_with fail
    refine (zzBytes_any a n cap pI kI b _ hn).mono ?_
    rintro e w' ⟨rfl, rfl⟩
    rw [decide_eq_false c1]
    go_wp2
    go_ret
    exact ⟨rfl, Below.refl _ _⟩
  go_enter Try.func3, Try.ntmps3
  go_wp2_with fail
  refine (zzBytes_any a n cap pI kI b _ hn).mono ?_
  rintro e w' ⟨rfl, hw'⟩
  subst hw'
  rw [decide_eq_true c1]
  unfold maxLen at hn
  have c1' : ¬ (1048576 : Int) < (n : Int) := by omega
  by_cases d1 : pI < 0
  · go_wp2
    go_ret
    exact ⟨rfl, Below.refl _ _⟩
  by_cases d2 : (n : Int) < pI
  · go_wp2
    go_ret
    exact ⟨rfl, Below.refl _ _⟩
  by_cases d3 : kI < 0
  · go_wp2
    go_ret
    exact ⟨rfl, Below.refl _ _⟩
  by_cases d4 : (n : Int) < kI
  · go_wp2
    go_ret
    exact ⟨rfl, Below.refl _ _⟩
  obtain ⟨p, hp⟩ : ∃ p : Nat, pI = (p : Int) := ⟨pI.toNat, by omega⟩
  obtain ⟨k, hk⟩ : ∃ k : Nat, kI = (k : Int) := ⟨kI.toNat, by omega⟩
  subst hp hk
  have hpn : p ≤ n := by omega
  have hkn : k ≤ n := by omega
  go_wp2_with fail
  refine (clone_any a n cap f _ c1 HA.out HS.out).mono ?_
  rintro e w1 ⟨a', rfl, hs1, hb1⟩
  have S1 := hide hs1
  have B1 := hide hb1
  clear hs1 hb1
  go_wp2_with fail
  refine (zzAt_any a' n n p b f _ c1 (by omega) S1.out).mono ?_
  rintro e w2 ⟨rfl, hb2⟩
  have S2 := hide (S1.out.below hb2)
  have B2 := hide (B1.out.trans (hb2.mono B1.out.size))
  clear hb2
  obtain ⟨V, hV⟩ : ∃ V, atB f n p b = V := ⟨_, rfl⟩
  rw [hV]
  have HV := hide hV
  clear hV
  go_upto_if 44 with fail
  go_cut [10] (fun v wd => v = .bool V ∧ SeesB wd a' n f ∧ Below w'.heap.size w' wd)
  case first =>
    by_cases e1 : p < k
    · go_wp2_with fail
      refine (zzAt_any a' k n p b f _ (by omega) (by omega) (S2.out.take hkn)).mono ?_
      rintro e w3 ⟨rfl, hb3⟩
      have B3 := hide (B2.out.trans (hb3.mono B2.out.size))
      have S3 := hide (S2.out.below hb3)
      clear hb3
      rw [at_take f n k p b hkn e1, HV.out]
      go_wp2
      go_meet
      case rel => exact ⟨rfl, S3.out, B3.out⟩
    · have hsub : ((p : Int) - (k : Int)) = ((p - k : Nat) : Int) := by omega
      by_cases e2 : n = k
      · subst e2
        have hV := HV.out
        rw [atB_out e1] at hV
        have HV2 := hide hV
        clear hV
        go_wp2_with fail
        refine (zzAt_any a' 0 0 0 b f _ (by omega) (by omega) (SeesB.empty _ _ _)).mono ?_
        rintro e w3 ⟨rfl, hb3⟩
        have B3 := hide (B2.out.trans (hb3.mono B2.out.size))
        have S3 := hide (S2.out.below hb3)
        clear hb3
        rw [atB_out (Nat.not_lt_zero 0)]
        go_wp2
        go_meet
        case rel => exact ⟨by rw [← HV2.out], S3.out, B3.out⟩
      · go_wp2_with fail
        refine (zzAt_any _ (n - k) (n - k) (p - k) b (fun i => f (k + i)) _ (by omega) (by omega) (S2.out.drop k)).mono ?_
        rintro e w3 ⟨rfl, hb3⟩
        have B3 := hide (B2.out.trans (hb3.mono B2.out.size))
        have S3 := hide (S2.out.below hb3)
        clear hb3
        rw [at_drop f n k p b e1, HV.out]
        go_wp2
        go_meet
        case rel => exact ⟨rfl, S3.out, B3.out⟩
  case rest =>
    obtain ⟨rfl, hsc, hbc⟩ := hcut
    have SC := hide hsc
    have BC := hide hbc
    clear hbc hsc
    by_cases e3 : p < n
    · obtain ⟨bb, off, ha', hblt, hc⟩ := SC.out p e3
      subst ha'
      go_wp2_with fail
      refine (zzAt_any _ n n p (f p) f _ c1 (by omega) SC.out).mono ?_
      rintro e w4 ⟨rfl, hb4⟩
      have B4 := hide (BC.out.trans (hb4.mono BC.out.size))
      clear hb4
      have e4 : atB f n p (f p) = true := by rw [atB_in e3]; simp
      rw [e4]
      go_wp2
      go_ret
      exact ⟨rfl, B4.out⟩
    · have hV := HV.out
      rw [atB_out e3] at hV
      subst hV
      go_wp2
      go_ret
      exact ⟨rfl, BC.out⟩
end Go.Proofs.Qxb6615730a.Can
