import Derived.Test.Qxb6614952aBuild
namespace Go.Proofs.Qxb6614952a
open Go.RowKit

/-- Some Reply below n answered and is settled. -/
def anyS (rs : Nat → Rep) (n : Nat) : Bool := (List.range n).any fun i => !(rs i).failed && (rs i).settled
theorem anyS_no {rs : Nat → Rep} {n : Nat} (h : ∀ i, i < n → (!(rs i).failed && (rs i).settled) = false) : anyS rs n = false := by
  unfold anyS
  rw [List.any_eq_false]
  intro i hi
  rw [h i (List.mem_range.1 hi)]
  simp
theorem anyS_yes {rs : Nat → Rep} {n k : Nat} (hk : k < n) (h : (!(rs k).failed && (rs k).settled) = true) : anyS rs n = true := by
  unfold anyS
  rw [List.any_eq_true]
  exact ⟨k, List.mem_range.2 hk, h⟩

theorem ret_bool {a b : Bool} (h : a = b) : Ending.returned (.bool a) = .returned (.bool b) := by rw [h]

theorem IsAns.below {w w' : World} {lo n : Nat} {rs : Nat → Rep} {v : Value} (h : IsAns w lo n rs v) (hb : Below w.heap.size w w') : IsAns w' lo n rs v := by
  obtain ⟨gA, gR, gE, fA, fR, ev, h1, h2, h3, hv, hA, cA, hR, cR, hE, cE⟩ := h
  exact ⟨gA, gR, gE, fA, fR, ev, h1, h2, h3, hv, rowIs_below hA hb, cA, rowIs_below hR hb, cR, rowIs_below hE hb, cE⟩

set_option maxHeartbeats 800000 in
theorem settled_any (lo n : Nat) (rs : Nat → Rep) (v : Value) (w : World) (hn : n ≤ 16777216) (hv : IsAns w lo n rs v) :
    Calls Try.prog 34 #[v] w fun e w' => e = .returned (.bool (anyS rs n)) ∧ Below w.heap.size w w' := by
  obtain ⟨gA, gR, gE, fA, fR, ev, _, _, _, rfl, _, _, hR, hcR, hE, hcE⟩ := hv
  have HR := hide hR
  have HCR := hide hcR
  have HE := hide hE
  have HCE := hide hcE
  clear hR hcR hE hcE
  go_enter Try.func34, Try.ntmps34
  go_wp2
  go_loopw [8] (fun i wr => ∃ k : Nat, k ≤ n ∧ i = .int .i64 k ∧ Below (w.heap.size + 1) (w.alloc (.cells #[.slice (some ⟨gA, 0, none⟩) n n, .slice (some ⟨gR, 0, none⟩) n n, .slice (some ⟨gE, 0, none⟩) n n] 50)) wr ∧ ∀ i, i < k → (!(rs i).failed && (rs i).settled) = false) (fun i _ => n - (intOf i).toNat)
  case atStart => exact ⟨0, Nat.zero_le _, rfl, Below.refl _ _, fun i hi => absurd hi (Nat.not_lt_zero i)⟩
  case round =>
    obtain ⟨k, hk, rfl, hb, hno⟩ := hrel
    have HB := hide hb
    have HNO := hide hno
    have HB0 : Hid (Below w.heap.size w wr) := ((Below.refl _ _).alloc (Nat.le_refl _) _).trans (hb.mono (by omega))
    have b0 : wr.cell? ⟨w.heap.size, 0, none⟩ = some (.slice (some ⟨gA, 0, none⟩) n n) := (hb.cell (p := ⟨w.heap.size, 0, none⟩) (by simp)).trans (by simp [go_sem])
    have b1 : wr.cell? ⟨w.heap.size, 1, none⟩ = some (.slice (some ⟨gR, 0, none⟩) n n) := (hb.cell (p := ⟨w.heap.size, 1, none⟩) (by simp)).trans (by simp [go_sem])
    have b2 : wr.cell? ⟨w.heap.size, 2, none⟩ = some (.slice (some ⟨gE, 0, none⟩) n n) := (hb.cell (p := ⟨w.heap.size, 2, none⟩) (by simp)).trans (by simp [go_sem])
    clear hb hno
    by_cases hlt : k < n
    · have hrR := rowIs_below HR.out HB0.out
      have hrE := (rowIs_below HE.out HB0.out).cell hlt
      have a0 := hrR.cell (i := k * 10) (by omega)
      rw [show k * 10 = k * 10 + 0 from rfl, HCR.out k hlt 0 (by omega)] at a0
      have a1 := hrR.cell (i := k * 10 + 1) (by omega)
      rw [HCR.out k hlt 1 (by omega)] at a1
      have a2 := hrR.cell (i := k * 10 + 2) (by omega)
      rw [HCR.out k hlt 2 (by omega)] at a2
      have a3 := hrR.cell (i := k * 10 + 3) (by omega)
      rw [HCR.out k hlt 3 (by omega)] at a3
      have a4 := hrR.cell (i := k * 10 + 4) (by omega)
      rw [HCR.out k hlt 4 (by omega)] at a4
      have a5 := hrR.cell (i := k * 10 + 5) (by omega)
      rw [HCR.out k hlt 5 (by omega)] at a5
      have a6 := hrR.cell (i := k * 10 + 6) (by omega)
      rw [HCR.out k hlt 6 (by omega)] at a6
      have a7 := hrR.cell (i := k * 10 + 7) (by omega)
      rw [HCR.out k hlt 7 (by omega)] at a7
      have a8 := hrR.cell (i := k * 10 + 8) (by omega)
      rw [HCR.out k hlt 8 (by omega)] at a8
      have a9 := hrR.cell (i := k * 10 + 9) (by omega)
      rw [HCR.out k hlt 9 (by omega)] at a9
      simp only [Rep.cell, Nat.add_zero] at a0 a1 a2 a3 a4 a5 a6 a7 a8 a9
      have hz : w.heap.size < wr.heap.size := by have := HB.out.size; simp at this; omega
      have hzE : gE < wr.heap.size := (rowIs_below HE.out HB0.out).lt
      clear hrR b0 b1
      rcases HCE.out k hlt with ⟨hfl, hev⟩ | ⟨hfl, ad, hev⟩
      · rw [hev] at hrE
        have HFL := hide hfl
        clear hfl hev
        cases hst : (rs k).settled
        · rw [hst] at a4
          have HST := hide hst
          clear hst
          go_wp2
          go_roundw
          case rel =>
            refine ⟨k + 1, by omega, by go_num, HB.out.alloc (by omega) _, fun i hi => ?_⟩
            by_cases e : i = k
            · subst e; rw [HFL.out, HST.out]; rfl
            · exact HNO.out i (by omega)
          case measure => simp [intOf]; omega
        · rw [hst] at a4
          have HST := hide hst
          clear hst
          go_wp2
          go_ret
          exact ⟨ret_bool (anyS_yes hlt (by rw [HFL.out, HST.out]; rfl)).symm, HB0.out.alloc HB0.out.size _⟩
      · rw [hev] at hrE
        have HFL := hide hfl
        clear hfl hev
        go_wp2
        go_roundw
        case rel =>
          refine ⟨k + 1, by omega, by go_num, HB.out.alloc (by omega) _, fun i hi => ?_⟩
          by_cases e : i = k
          · subst e; rw [HFL.out]; rfl
          · exact HNO.out i (by omega)
        case measure => simp [intOf]; omega
    · obtain rfl : k = n := by omega
      clear b0 b1 b2
      go_wp2
      go_ret
      exact ⟨ret_bool (anyS_no HNO.out).symm, HB0.out⟩

set_option maxHeartbeats 400000 in
theorem zzSettled_any (lo n : Nat) (rs : Nat → Rep) (v : Value) (w : World) (hn : n ≤ 16777216) (hv : IsAns w lo n rs v) :
    Calls Try.prog 30 #[v] w fun e w' => e = .returned (.bool (anyS rs n)) ∧ Below w.heap.size w w' := by
  have HV := hide hv
  obtain ⟨gA, gR, gE, fA, fR, ev, hA1, hR1, hE1, rfl, _⟩ := hv
  clear hA1 hR1 hE1
  go_enter Try.func30, Try.ntmps30
  go_wp2_with fail
  refine (settled_any lo n rs _ _ hn (HV.out.below ((Below.refl _ _).alloc (Nat.le_refl _) _))).mono ?_
  rintro e w1 ⟨rfl, hb⟩
  have HB : Hid (Below w.heap.size w w1) := ((Below.refl _ _).alloc (Nat.le_refl _) _).trans (hb.mono (by simp))
  clear hb
  go_wp2
  go_ret
  exact ⟨rfl, HB.out⟩

set_option maxHeartbeats 400000 in
theorem settledOf_any (a : Option Addr) (n cap : Nat) (rs : Nat → Rep) (w : World) (hn : n ≤ 16777216) (hs : Sees w a n rs) :
    Calls Try.prog 10 #[.slice a n cap] w fun e w' => e = .returned (.bool (anyS rs n)) ∧ Below w.heap.size w w' := by
  have HS := hide hs
  clear hs
  go_enter Try.func10, Try.ntmps10
  go_wp2_with fail
  refine (buildAnswers_any a n cap rs _ hn HS.out).mono ?_
  rintro e w1 ⟨v, rfl, hv, hb⟩
  have HV := hide hv
  have HB := hide hb
  clear hv hb
  go_wp2_with fail
  refine (zzSettled_any _ n rs _ _ hn HV.out).mono ?_
  rintro e w2 ⟨rfl, hb⟩
  have HB2 : Hid (Below w.heap.size w w2) := HB.out.trans (hb.mono HB.out.size)
  clear hb
  go_wp2
  go_ret
  exact ⟨rfl, HB2.out⟩
end Go.Proofs.Qxb6614952a
