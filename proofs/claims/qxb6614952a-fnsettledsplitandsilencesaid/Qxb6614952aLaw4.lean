import Derived.Test.Qxb6614952aClone
import Derived.Test.Qxb6614952aSettled
import Derived.Test.Qxb6614952aZz13
import Derived.Deep.DeepCutAuto
namespace Go.Proofs.Qxb6614952a
open Go.RowKit

theorem anyS_split (rs : Nat → Rep) (k n : Nat) (hk : k ≤ n) : anyS rs n = (anyS rs k || anyS (fun i => rs (k + i)) (n - k)) := by
  rw [Bool.eq_iff_iff, Bool.or_eq_true]
  unfold anyS
  simp only [List.any_eq_true, List.mem_range]
  constructor
  · rintro ⟨i, hi, h⟩
    by_cases c : i < k
    · exact .inl ⟨i, c, h⟩
    · exact .inr ⟨i - k, by omega, by rw [show k + (i - k) = i by omega]; exact h⟩
  · rintro (⟨i, hi, h⟩ | ⟨i, hi, h⟩)
    · exact ⟨i, by omega, h⟩
    · exact ⟨k + i, by omega, h⟩
theorem anyS_fail (rs : Nat → Rep) (k n : Nat) (hk : k < n) : anyS rs n = (anyS (failAt rs k) n || (!(rs k).failed && (rs k).settled)) := by
  rw [Bool.eq_iff_iff, Bool.or_eq_true]
  unfold anyS
  simp only [List.any_eq_true, List.mem_range]
  constructor
  · rintro ⟨i, hi, h⟩
    by_cases c : i = k
    · subst c; exact .inr h
    · exact .inl ⟨i, hi, by unfold failAt; rw [if_neg c]; exact h⟩
  · rintro (⟨i, hi, h⟩ | h)
    · by_cases c : i = k
      · subst c; unfold failAt at h; rw [if_pos rfl] at h; simp [Rep.fail] at h
      · exact ⟨i, hi, by unfold failAt at h; rw [if_neg c] at h; exact h⟩
    · exact ⟨k, hk, h⟩
theorem anyS_silent (rs : Nat → Rep) (n : Nat) (h : ∀ i, i < n → (rs i).failed = true) : anyS rs n = false :=
  anyS_no fun i hi => by rw [h i hi]; rfl

theorem Sees.take {w : World} {a : Option Addr} {n : Nat} {rs : Nat → Rep} (h : Sees w a n rs) {k : Nat} (hk : k ≤ n) : Sees w a k rs := fun i hi => h i (by omega)
theorem Sees.empty (w : World) (a : Option Addr) (rs : Nat → Rep) : Sees w a 0 rs := fun i hi => absurd hi (Nat.not_lt_zero i)
theorem Sees.drop {w : World} {b off n : Nat} {rs : Nat → Rep} (h : Sees w (some ⟨b, off, none⟩) n rs) {k : Nat} (_hk : k ≤ n) : Sees w (some ⟨b, off + k * 15, none⟩) (n - k) (fun i => rs (k + i)) := by
  intro i hi
  obtain ⟨ho, b', off', ha, hlt, hc⟩ := h (k + i) (by omega)
  cases ha
  refine ⟨ho, b, off + k * 15, rfl, hlt, fun j hj => ?_⟩
  rw [show off + k * 15 + i * 15 + j = off + (k + i) * 15 + j by omega]
  exact hc j hj

set_option maxHeartbeats 1600000 in
theorem law4_any (a : Option Addr) (n cap : Nat) (rs : Nat → Rep) (k : Int) (w : World) (hl : n ≤ maxLen) (hcap : n ≤ cap) (hcm : cap ≤ maxLen) (ha : a = none → cap = 0) (hs : Sees w a n rs) :
    Calls Try.prog 4 #[.slice a n cap, .int .i64 k] w fun e w' => e = .returned (.bool true) ∧ Below w.heap.size w w' := by
  have HS := hide hs
  have HA := hide ha
  clear hs ha
  go_enter Try.func4, Try.ntmps4
  go_wp2_with fail
  refine (zz13_any a n cap rs k _ hl HS.out).mono ?_
  rintro e w1 ⟨⟨b1, rfl, hb1⟩, hbel1⟩
  have HB1 := hide hbel1
  cases b1
  · clear hbel1 hb1
    go_wp2
    go_ret
    exact ⟨rfl, HB1.out⟩
  have hn := hb1 rfl
  clear hbel1 hb1
  go_wp2_with fail
  refine (addReplies_any a n cap rs _ hl (HS.out.below HB1.out)).mono ?_
  rintro e w2 ⟨⟨n2, h2, h2', rfl⟩, hb2⟩
  have HB2 := hide (HB1.out.trans (hb2.mono HB1.out.size))
  clear hb2
  by_cases d1 : 1048576 < n2
  · go_wp2
    go_ret
    exact ⟨rfl, HB2.out⟩
  by_cases d2 : k < 0
  · go_wp2
    go_ret
    exact ⟨rfl, HB2.out⟩
  by_cases d3 : (n : Int) < k
  · go_wp2
    go_ret
    exact ⟨rfl, HB2.out⟩
  obtain ⟨q, hq⟩ : ∃ q : Nat, k = (q : Int) := ⟨k.toNat, by omega⟩
  subst hq
  have hqn : q ≤ n := by omega
  have hn' : n ≤ 16777216 := by omega
  go_wp2_with fail
  refine (settledOf_any a n cap rs _ hn' (HS.out.below HB2.out)).mono ?_
  rintro e w3 ⟨rfl, hb3⟩
  have HB3 := hide (HB2.out.trans (hb3.mono HB2.out.size))
  clear hb3 d1 h2 h2'
  unfold maxLen at hl hcm
  obtain ⟨S, hS⟩ : ∃ S, anyS rs n = S := ⟨_, rfl⟩
  rw [hS]
  have HSS := hide hS
  clear hS
  go_upto_region 8 with fail
  go_cut [6] (fun h wc => h = .bool true ∧ Below w.heap.size w wc)
  case first =>
    go_wp2_with fail
    refine (settledOf_any a q cap rs _ (by omega) ((HS.out.below HB3.out).take hqn)).mono ?_
    rintro e w4 ⟨rfl, hb4⟩
    have HB4 := hide (HB3.out.trans (hb4.mono HB3.out.size))
    clear hb4
    have HSP : Hid (S = (anyS rs q || anyS (fun i => rs (q + i)) (n - q))) := by
      have := anyS_split rs q n hqn
      rw [HSS.out] at this
      exact this
    cases hA : anyS rs q
    · rw [hA, Bool.false_or] at HSP
      clear hA
      by_cases hcq : cap = q
      · subst hcq
        have hq0 : n - cap = 0 := by omega
        go_wp2_with fail
        refine (settledOf_any a 0 0 (fun i => rs (cap + i)) _ (by omega) (Sees.empty _ _ _)).mono ?_
        rintro e w5 ⟨rfl, hb5⟩
        have HB5 := hide (HB4.out.trans (hb5.mono HB4.out.size))
        clear hb5
        have hS : S = anyS (fun i => rs (cap + i)) 0 := by have := HSP.out; rw [hq0] at this; exact this
        rw [← hS]
        clear hS
        go_wp2
        go_meet
        case rel => exact ⟨by simp, HB5.out⟩
      · go_wp2_with fail
        have hdr : Sees w4 (Option.map (fun x => x.add (q * 15)) a) (n - q) (fun i => rs (q + i)) := by
          by_cases h0 : n - q = 0
          · rw [h0]; exact Sees.empty _ _ _
          · obtain ⟨_, b, off, ha, _, _⟩ := HS.out 0 (by omega)
            have := HS.out.below HB4.out
            rw [ha] at this ⊢
            simp only [Option.map_some, Addr.add_lit]
            exact this.drop hqn
        have HDR := hide hdr
        clear hdr
        refine (settledOf_any _ (n - q) (cap - q) (fun i => rs (q + i)) _ (by omega) HDR.out).mono ?_
        rintro e w5 ⟨rfl, hb5⟩
        have HB5 := hide (HB4.out.trans (hb5.mono HB4.out.size))
        clear hb5
        rw [← HSP.out]
        go_wp2
        go_meet
        case rel => exact ⟨by simp, HB5.out⟩
    · rw [hA, Bool.true_or] at HSP
      clear hA
      go_wp2
      go_meet
      case rel => exact ⟨by rw [HSP.out], HB4.out⟩
  case rest =>
    obtain ⟨rfl, hbc⟩ := hcut
    have HB5 := hide hbc
    clear hbc
    go_upto_if 42 with fail
    go_cut [6, 7] (fun h y wd => h = .bool true ∧ Below w.heap.size w wd)
    case first =>
      by_cases hlt : q < n
      · have hfl := anyS_fail rs q n hlt
        rw [HSS.out] at hfl
        have HFL := hide hfl
        clear hfl
        obtain ⟨_, b, off, ha, hblt, hc⟩ := HS.out q hlt
        have HAQ := hide ha
        have HC := hide hc
        clear ha hc
        go_wp2_with fail
        refine (clone_any a n cap rs _ hn (HS.out.below HB5.out)).mono ?_
        rintro e w6 ⟨rfl, hr6, hb6⟩
        have HR6 := hide hr6
        have HB6 := hide (HB5.out.trans (hb6.mono HB5.out.size))
        clear hb6 hr6
        obtain ⟨_, f, hrow, _⟩ := HR6.out
        have y0 := hrow.cell (i := q * 15 + 14) (by omega)
        have y1 := hrow.frozen (q * 15 + 14)
        have hgl := HB5.out.size
        clear hrow
        go_wp2_with fail
        have HB7 := hide (HB6.out.setCell (p := ⟨wc.heap.size, q * 15 + 14, none⟩) hgl (.bool true))
        have HR7 := hide (HR6.out.failed q)
        refine (settledOf_any _ n n (failAt rs q) _ hn' HR7.out.sees).mono ?_
        rintro e w8 ⟨rfl, hb8⟩
        have HB8 := hide (HB7.out.trans (hb8.mono HB7.out.size))
        clear hb8 y0 y1
        cases hF : anyS (failAt rs q) n
        · rw [hF, Bool.false_or] at HFL
          clear hF
          have hcw : ∀ j, j < 15 → w8.cell? ⟨b, off + q * 15 + j, none⟩ = some ((rs q).cell j) := fun j hj => (HB8.out.cell (p := ⟨b, off + q * 15 + j, none⟩) hblt).trans (HC.out j hj)
          have e0 := hcw 0 (by omega)
          have e1 := hcw 1 (by omega)
          have e2 := hcw 2 (by omega)
          have e3 := hcw 3 (by omega)
          have e4 := hcw 4 (by omega)
          have e5 := hcw 5 (by omega)
          have e6 := hcw 6 (by omega)
          have e7 := hcw 7 (by omega)
          have e8 := hcw 8 (by omega)
          have e9 := hcw 9 (by omega)
          have e10 := hcw 10 (by omega)
          have e11 := hcw 11 (by omega)
          have e12 := hcw 12 (by omega)
          have e13 := hcw 13 (by omega)
          have e14 := hcw 14 (by omega)
          simp only [Rep.cell, Nat.add_zero] at e0 e1 e2 e3 e4 e5 e6 e7 e8 e9 e10 e11 e12 e13 e14
          obtain rfl := HAQ.out
          clear hcw
          go_wp2_with fail
          refine (answered_any (rs q) _).mono ?_
          rintro e w9 ⟨rfl, hb9⟩
          have HB9 := hide (HB8.out.trans (hb9.mono HB8.out.size))
          clear hb9 e0 e1 e2 e3 e4 e5 e6 e7 e8 e9 e10 e11 e12 e13 e14
          rw [← HFL.out]
          go_wp2
          go_meet
          case rel => exact ⟨by simp, HB9.out⟩
        · rw [hF, Bool.true_or] at HFL
          clear hF
          go_wp2
          go_meet
          case rel => exact ⟨by rw [HFL.out], HB8.out⟩
      · go_wp2
        go_meet
        case rel => exact ⟨rfl, HB5.out⟩
    case rest =>
      obtain ⟨rfl, hbd⟩ := hcut
      have HB6 := hide hbd
      clear hbd
      go_wp2_with fail
      refine (clone_any a n cap rs _ hn (HS.out.below HB6.out)).mono ?_
      rintro e w7 ⟨rfl, hr7, hb7⟩
      have HR7 := hide hr7
      have HB7 := hide (HB6.out.trans (hb7.mono HB6.out.size))
      have hgl := HB6.out.size
      clear hb7 hr7
      go_wp2
      go_loopw [9] (fun i wr => ∃ k : Nat, k ≤ n ∧ i = .int .i64 k ∧ Below w.heap.size w wr ∧ ∃ rs', RowReps wr wc.heap.size n rs' ∧ ∀ j, j < k → (rs' j).failed = true) (fun i _ => n - (intOf i).toNat)
      case atStart => exact ⟨0, Nat.zero_le _, rfl, HB7.out, rs, HR7.out, fun j hj => absurd hj (Nat.not_lt_zero j)⟩
      case round =>
        obtain ⟨k, hk, rfl, hb, rs', hr, hfl⟩ := hrel
        have HB := hide hb
        have HR := hide hr
        have HF := hide hfl
        clear hb hr hfl
        by_cases hlt : k < n
        · obtain ⟨_, f, hrow, _⟩ := HR.out
          have y0 := hrow.cell (i := k * 15 + 14) (by omega)
          have y1 := hrow.frozen (k * 15 + 14)
          clear hrow
          go_wp2
          go_roundw
          case rel =>
            refine ⟨k + 1, by omega, by go_num, HB.out.setCell (p := ⟨wc.heap.size, k * 15 + 14, none⟩) hgl _, failAt rs' k, HR.out.failed k, fun j hj => ?_⟩
            unfold failAt
            split
            · rfl
            · exact HF.out j (by omega)
          case measure => simp [intOf]; omega
        · obtain rfl : k = n := by omega
          go_wp2_with fail
          refine (settledOf_any _ k k rs' _ hn' HR.out.sees).mono ?_
          rintro e w8 ⟨rfl, hb8⟩
          have HB8 := hide (HB.out.trans (hb8.mono HB.out.size))
          clear hb8
          rw [anyS_silent rs' k HF.out]
          go_wp2
          go_ret
          exact ⟨rfl, HB8.out⟩
end Go.Proofs.Qxb6614952a
