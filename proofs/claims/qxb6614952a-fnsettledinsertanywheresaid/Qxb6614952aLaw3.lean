import Derived.Test.Qxb6614952aIns
import Derived.Test.Qxb6614952aSettled
import Derived.Test.Qxb6614952aZz
import Derived.Deep.RegionHeld3
namespace Go.Proofs.Qxb6614952a
open Go.RowKit

/-- x's box lies at block b. -/
def BoxAt (w : World) (b : Nat) (x : Rep) : Prop := b < w.heap.size ∧ ∀ j, j < 15 → w.cell? ⟨b, j, none⟩ = some (x.cell j)
theorem BoxAt.below {w w' : World} {b : Nat} {x : Rep} (h : BoxAt w b x) (hb : Below w.heap.size w w') : BoxAt w' b x :=
  ⟨Nat.lt_of_lt_of_le h.1 hb.size, fun j hj => (hb.cell (p := ⟨b, j, none⟩) h.1).trans (h.2 j hj)⟩
theorem BoxAt.mk (w : World) (x : Rep) : BoxAt (w.alloc (.cells x.val.cells 28)) w.heap.size x := ⟨by simp, fun j hj => box_cell w x j hj⟩

theorem BoxAt.cells {w : World} {b : Nat} {x : Rep} (h : BoxAt w b x) : w.cell? ⟨b, 0, none⟩ = some (.string x.id) ∧ w.cell? ⟨b, 1, none⟩ = some (.string x.addr) ∧ w.cell? ⟨b, 2, none⟩ = some (.int .i64 x.state) ∧ w.cell? ⟨b, 3, none⟩ = some (.bool x.retired) ∧ w.cell? ⟨b, 4, none⟩ = some (.int .u64 x.seq) ∧ w.cell? ⟨b, 5, none⟩ = some (.int .u64 x.vid) ∧ w.cell? ⟨b, 6, none⟩ = some (.bool x.deleted) ∧ w.cell? ⟨b, 7, none⟩ = some (.bool x.clean) ∧ w.cell? ⟨b, 8, none⟩ = some (.bool x.settled) ∧ w.cell? ⟨b, 9, none⟩ = some (.bool x.away) ∧ w.cell? ⟨b, 10, none⟩ = some (.bool x.short) ∧ w.cell? ⟨b, 11, none⟩ = some (.bool x.held) ∧ w.cell? ⟨b, 12, none⟩ = some (.int .u64 x.taken) ∧ w.cell? ⟨b, 13, none⟩ = some (.slice x.va x.vlen x.vcap) ∧ w.cell? ⟨b, 14, none⟩ = some (.bool x.failed) :=
  ⟨h.2 0 (by omega), h.2 1 (by omega), h.2 2 (by omega), h.2 3 (by omega), h.2 4 (by omega), h.2 5 (by omega), h.2 6 (by omega), h.2 7 (by omega), h.2 8 (by omega), h.2 9 (by omega), h.2 10 (by omega), h.2 11 (by omega), h.2 12 (by omega), h.2 13 (by omega), h.2 14 (by omega)⟩

theorem anyS_ins (rs : Nat → Rep) (p n : Nat) (x : Rep) (hp : p ≤ n) : anyS (insAt rs p x) (n + 1) = (anyS rs n || (!x.failed && x.settled)) := by
  rw [Bool.eq_iff_iff, Bool.or_eq_true]
  unfold anyS
  simp only [List.any_eq_true, List.mem_range]
  constructor
  · rintro ⟨i, hi, h⟩
    unfold insAt at h
    split at h
    · exact .inl ⟨i, by omega, h⟩
    · split at h
      · exact .inr h
      · exact .inl ⟨i - 1, by omega, h⟩
  · rintro (⟨i, hi, h⟩ | h)
    · by_cases c : i < p
      · exact ⟨i, by omega, by unfold insAt; rw [if_pos c]; exact h⟩
      · exact ⟨i + 1, by omega, by unfold insAt; rw [if_neg (by omega), if_neg (by omega), Nat.add_sub_cancel]; exact h⟩
    · exact ⟨p, by omega, by unfold insAt; rw [if_neg (by omega), if_pos rfl]; exact h⟩

set_option maxHeartbeats 1600000 in
theorem law3_any (a : Option Addr) (n cap : Nat) (rs : Nat → Rep) (p : Int) (x : Rep) (w : World) (hl : n ≤ maxLen) (hcap : n ≤ cap) (hcm : cap ≤ maxLen) (ha : a = none → cap = 0) (hs : Sees w a n rs) (hx : x.ok) :
    Calls Try.prog 3 #[.slice a n cap, .int .i64 p, x.val] w fun e w' => e = .returned (.bool true) ∧ Below w.heap.size w w' := by
  have HS := hide hs
  have HA := hide ha
  have HX := hide hx
  clear hs ha hx
  go_enter Try.func3, Try.ntmps3
  go_wp2_with fail
  refine (zz7_any a n cap rs p x _ hl (HS.out.below ((Below.refl _ _).alloc (Nat.le_refl _) _)) HX.out).mono ?_
  rintro e w1 ⟨⟨b1, rfl, hb1⟩, hbel1⟩
  have HB1 : Hid (Below w.heap.size w w1) := ((Below.refl _ _).alloc (Nat.le_refl _) _).trans (hbel1.mono (by simp))
  have HX1 : Hid (BoxAt w1 w.heap.size x) := (BoxAt.mk w x).below hbel1
  have HS1 : Hid (Sees w1 a n rs) := HS.out.below HB1.out
  cases b1
  · clear hbel1 hb1
    go_wp2
    go_ret
    exact ⟨rfl, HB1.out⟩
  have hn := hb1 rfl
  clear hbel1 hb1
  obtain ⟨c0, c1, c2, c3, c4, c5, c6, c7, c8, c9, c10, c11, c12, c13, c14⟩ := HX1.out.cells
  have hz1 := HX1.out.1
  go_wp2_with fail
  go_region_held3 (fun w' => w'.cell? ⟨w.heap.size, 0, none⟩ = some (.string x.id) ∧ w'.cell? ⟨w.heap.size, 1, none⟩ = some (.string x.addr) ∧ w'.cell? ⟨w.heap.size, 2, none⟩ = some (.int .i64 x.state) ∧ w'.cell? ⟨w.heap.size, 3, none⟩ = some (.bool x.retired) ∧ w'.cell? ⟨w.heap.size, 4, none⟩ = some (.int .u64 x.seq) ∧ w'.cell? ⟨w.heap.size, 5, none⟩ = some (.int .u64 x.vid) ∧ w'.cell? ⟨w.heap.size, 6, none⟩ = some (.bool x.deleted) ∧ w'.cell? ⟨w.heap.size, 7, none⟩ = some (.bool x.clean) ∧ w'.cell? ⟨w.heap.size, 8, none⟩ = some (.bool x.settled) ∧ w'.cell? ⟨w.heap.size, 9, none⟩ = some (.bool x.away) ∧ w'.cell? ⟨w.heap.size, 10, none⟩ = some (.bool x.short) ∧ w'.cell? ⟨w.heap.size, 11, none⟩ = some (.bool x.held) ∧ w'.cell? ⟨w.heap.size, 12, none⟩ = some (.int .u64 x.taken) ∧ w'.cell? ⟨w.heap.size, 13, none⟩ = some (.slice x.va x.vlen x.vcap) ∧ w'.cell? ⟨w.heap.size, 14, none⟩ = some (.bool x.failed)) (first | exact HX3.out.cells | exact HX2.out.cells | exact HX1.out.cells)
    (first
      | (go_at_call 9; refine (addReplies_any a n cap rs _ hl (HS1.out.below (by exact (Below.refl _ _).drew))).mono ?_; rintro e w2 ⟨⟨n2, h2, h2', rfl⟩, hb2⟩; have HX2 := hide ((HX1.out.below (Below.refl _ _).drew).below hb2); have HB2 := hide (HB1.out.drew.trans (hb2.mono HB1.out.size)); clear hb2)
      | (go_at_call 8; refine (addReply_any _ x _ (by omega) (by omega) HX.out).mono ?_; rintro e w3 ⟨⟨n3, h3, h3', rfl⟩, hb3⟩; have HX3 := hide ((HX2.out.below (by exact (Below.refl _ _))).below hb3); have HB3 := hide (HB2.out.trans (hb3.mono HB2.out.size)); clear hb3))
  all_goals
    clear c0 c1 c2 c3 c4 c5 c6 c7 c8 c9 c10 c11 c12 c13 c14
    by_cases d1 : 1048576 < n3
    · go_wp2
      go_ret
      exact ⟨rfl, HB3.out⟩
    by_cases d2 : p < 0
    · go_wp2
      go_ret
      exact ⟨rfl, HB3.out⟩
    by_cases d3 : (n : Int) < p
    · go_wp2
      go_ret
      exact ⟨rfl, HB3.out⟩
    obtain ⟨q, hq⟩ : ∃ q : Nat, p = (q : Int) := ⟨p.toNat, by omega⟩
    subst hq
    have hn' : n ≤ 16777216 := by omega
    have HS3 := hide (HS.out.below HB3.out)
    go_wp2_with fail
    refine (settledOf_any a n cap rs _ hn' HS3.out).mono ?_
    rintro e w4 ⟨rfl, hb4⟩
    have HX4 := hide (HX3.out.below hb4)
    have HB4 := hide (HB3.out.trans (hb4.mono HB3.out.size))
    have HS4 := hide (HS.out.below HB4.out)
    clear hb4
    obtain ⟨c0, c1, c2, c3, c4, c5, c6, c7, c8, c9, c10, c11, c12, c13, c14⟩ := HX4.out.cells
    go_wp2_with fail
    refine (insertReply_any a n cap rs q x _ hn (by omega) hcap hcm HA.out HS4.out HX.out).mono ?_
    rintro e w5 ⟨g, hg5, rfl, hs5, hb5⟩
    have HX5 := hide (HX4.out.below hb5)
    have HB5 := hide (HB4.out.trans (hb5.mono HB4.out.size))
    have HS5 := hide hs5
    clear hb5 hs5 c0 c1 c2 c3 c4 c5 c6 c7 c8 c9 c10 c11 c12 c13 c14
    go_wp2_with fail
    refine (settledOf_any _ (n + 1) _ _ _ (by omega) HS5.out).mono ?_
    rintro e w6 ⟨rfl, hb6⟩
    have HX6 := hide (HX5.out.below hb6)
    have HB6 := hide (HB5.out.trans (hb6.mono HB5.out.size))
    clear hb6
    have hlaw := anyS_ins rs q n x (by omega)
    rw [hlaw]
    clear hlaw
    obtain ⟨c0, c1, c2, c3, c4, c5, c6, c7, c8, c9, c10, c11, c12, c13, c14⟩ := HX6.out.cells
    generalize anyS rs n = B
    cases B
    · go_wp2_with fail
      refine (answered_any x _).mono ?_
      rintro e w7 ⟨rfl, hb7⟩
      have HB7 := hide (HB6.out.trans (hb7.mono HB6.out.size))
      clear hb7 c0 c1 c2 c3 c4 c5 c6 c7 c8 c9 c10 c11 c12 c13 c14
      generalize (!x.failed && x.settled) = V
      cases V
      all_goals
        go_wp2
        go_ret
        exact ⟨rfl, HB7.out⟩
    · go_wp2
      go_ret
      exact ⟨rfl, HB6.out⟩
end Go.Proofs.Qxb6614952a
