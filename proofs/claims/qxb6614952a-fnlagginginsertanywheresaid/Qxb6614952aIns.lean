import Derived.Test.Qxb6614952aBuild
namespace Go.Proofs.Qxb6614952a
open Go.RowKit

theorem info28 : (Try.prog.info? 28).map (fun i => (i.zero, i.size, i.bytes)) = some (some (.agg #[.string ByteArray.empty, .string ByteArray.empty, .int .i64 0, .bool false, .int .u64 0, .int .u64 0, .bool false, .bool false, .bool false, .bool false, .bool false, .bool false, .int .u64 0, .slice none 0 0, .bool false]), 15, 112) := by kernel_rfl

/-- The cells of m Replies, one after another. -/
def listOf (rs : Nat → Rep) (m : Nat) : List Value := (List.range (m * 15)).map fun j => (rs (j / 15)).cell (j % 15)
theorem listOf_length (rs : Nat → Rep) (m : Nat) : (listOf rs m).length = m * 15 := by simp [listOf]
theorem listOf_get (rs : Nat → Rep) (m i j : Nat) (hi : i < m) (hj : j < 15) : (listOf rs m)[i * 15 + j]? = some ((rs i).cell j) := by
  have h1 : (i * 15 + j) / 15 = i := by omega
  have h2 : (i * 15 + j) % 15 = j := by omega
  have h3 : i * 15 + j < m * 15 := by omega
  simp [listOf, h1, h2, h3]
theorem Rep.oneCell (r : Rep) (j : Nat) : (r.cell j).oneCell' = true := by
  unfold Rep.cell
  split <;> rfl
theorem listOf_oneCell (rs : Nat → Rep) (m : Nat) : ∀ u ∈ listOf rs m, u.oneCell' = true := by
  intro u hu
  obtain ⟨j, _, rfl⟩ := List.mem_map.1 hu
  exact Rep.oneCell _ _
/-- What an append of a part of a slice of Replies asks. -/
theorem listOf_cells {w : World} {a : Option Addr} {n : Nat} {rs : Nat → Rep} (h : Sees w a n rs) (lo m : Nat) (hm : lo + m ≤ n) {ao : Option Addr} (hao : 0 < m → ∀ b off, a = some ⟨b, off, none⟩ → ao = some ⟨b, off + lo * 15, none⟩) :
    ∀ ad, ao = some ad → ∀ t u, (listOf (fun i => rs (lo + i)) m)[t]? = some u → w.cell? (ad.add t) = some u := by
  intro ad had t u hu
  have ht : t < m * 15 := by
    have := (List.getElem?_eq_some_iff.1 hu).1
    simpa [listOf_length] using this
  obtain ⟨_, b, off, ha, _, hc⟩ := h (lo + t / 15) (by omega)
  rw [hao (by omega) b off ha] at had
  obtain rfl := Option.some.inj had
  have e := listOf_get (fun i => rs (lo + i)) m (t / 15) (t % 15) (by omega) (by omega)
  rw [show t / 15 * 15 + t % 15 = t by omega, hu] at e
  rw [Option.some.inj e, Addr.add_lit, ← hc (t % 15) (by omega)]
  congr 2
  omega

theorem box_cell (w : World) (x : Rep) (j : Nat) (hj : j < 15) : (w.alloc (.cells x.val.cells 28)).cell? ⟨w.heap.size, j, none⟩ = some (x.cell j) := by
  have : j = 0 ∨ j = 1 ∨ j = 2 ∨ j = 3 ∨ j = 4 ∨ j = 5 ∨ j = 6 ∨ j = 7 ∨ j = 8 ∨ j = 9 ∨ j = 10 ∨ j = 11 ∨ j = 12 ∨ j = 13 ∨ j = 14 := by omega
  rcases this with rfl | rfl | rfl | rfl | rfl | rfl | rfl | rfl | rfl | rfl | rfl | rfl | rfl | rfl | rfl <;> simp [go_sem, Rep.cell, Value.cells]

/-- rs with x put in at p. -/
def insAt (rs : Nat → Rep) (p : Nat) (x : Rep) (i : Nat) : Rep := if i < p then rs i else if i = p then x else rs (i - 1)

theorem make28 (n : Nat) (hn : n ≤ 16777216) : ∃ C : Array Value, C.size = (n + 1) * 15 ∧ ∀ w : World, (Instr.makeSlice 22 (.int .i64 0) (.int .i64 ((n : Int) + 1))).run Try.prog w = .ok (.slice (some ⟨w.heap.size, 0, none⟩) 0 (n + 1)) (w.alloc (.cells C 28)) := by
  obtain ⟨i, hi, hz, hs, hb⟩ := info_parts info28
  refine ⟨madeCells (Value.agg #[.string ByteArray.empty, .string ByteArray.empty, .int .i64 0, .bool false, .int .u64 0, .int .u64 0, .bool false, .bool false, .bool false, .bool false, .bool false, .bool false, .int .u64 0, .slice none 0 0, .bool false]).cells ((n + 1) * 15), size_madeCells _ _, fun w => ?_⟩
  have hr := run_make (P := Try.prog) w 22 28 i _ Try.underlying22 hi hz .i64 .i64 0 ((n : Int) + 1) (by omega) (by omega) (by rw [hb]; omega) (by omega)
  rw [hs] at hr
  have e1 : ((n : Int) + 1).toNat = n + 1 := by omega
  rw [e1] at hr
  exact hr

theorem sees_of_owns {w : World} {base g n cap : Nat} {rs : Nat → Rep} {xs : List Value} (h : w.ownsRow base 28 15 (.slice (some ⟨g, 0, none⟩) n cap) n xs)
    (hx : ∀ i, i < n → ∀ j, j < 15 → xs[i * 15 + j]? = some ((rs i).cell j)) (hok : ∀ i, i < n → (rs i).ok) : Sees w (some ⟨g, 0, none⟩) n rs := by
  obtain ⟨hl, ⟨hv, _⟩ | ⟨g', cap', cur, hv, hb, hg, hnc, hm, hcur, ht⟩⟩ := h
  · cases hv
  · obtain ⟨rfl, rfl⟩ : g' = g ∧ cap' = cap := by cases hv; exact ⟨rfl, rfl⟩
    intro i hi
    refine ⟨hok i hi, g', 0, rfl, (Array.getElem?_eq_some_iff.1 hg).1, fun j hj => ?_⟩
    have e := hx i hi j hj
    rw [← ht, List.getElem?_take, if_pos (by omega)] at e
    simp [World.cell?, hg]
    simpa using e

theorem insAt_get (rs : Nat → Rep) (p n : Nat) (x : Rep) (hp : p ≤ n) (i j : Nat) (hi : i < n + 1) (hj : j < 15) :
    (listOf rs p ++ (listOf (fun _ => x) 1 ++ listOf (fun i => rs (p + i)) (n - p)))[i * 15 + j]? = some ((insAt rs p x i).cell j) := by
  unfold insAt
  by_cases h1 : i < p
  · rw [List.getElem?_append_left (by rw [listOf_length]; omega), listOf_get _ _ _ _ h1 hj, if_pos h1]
  · rw [List.getElem?_append_right (by rw [listOf_length]; omega), if_neg h1, listOf_length]
    by_cases h2 : i = p
    · subst h2
      rw [List.getElem?_append_left (by rw [listOf_length]; omega), if_pos rfl, show i * 15 + j - i * 15 = 0 * 15 + j by omega, listOf_get _ _ _ _ (by omega) hj]
    · rw [List.getElem?_append_right (by rw [listOf_length]; omega), if_neg h2, listOf_length, show i * 15 + j - p * 15 - 1 * 15 = (i - p - 1) * 15 + j by omega, listOf_get _ _ _ _ (by omega) hj, show p + (i - p - 1) = i - 1 by omega]

theorem insAt_ok {rs : Nat → Rep} {n p : Nat} {x : Rep} (h : ∀ i, i < n → (rs i).ok) (hx : x.ok) (hp : p ≤ n) (i : Nat) (hi : i < n + 1) : (insAt rs p x i).ok := by
  unfold insAt
  split
  · exact h i (by omega)
  · split
    · exact hx
    · exact h (i - 1) (by omega)

set_option maxHeartbeats 800000 in
theorem insertReply_any (a : Option Addr) (n cap : Nat) (rs : Nat → Rep) (p : Nat) (x : Rep) (w : World) (hn : n ≤ 1048576) (hp : p ≤ n) (hcap : n ≤ cap) (_hcm : cap ≤ maxLen) (ha : a = none → cap = 0) (hs : Sees w a n rs) (hx : x.ok) :
    Calls Try.prog 11 #[.slice a n cap, .int .i64 p, x.val] w fun e w' => ∃ g, w.heap.size ≤ g ∧ e = .returned (.slice (some ⟨g, 0, none⟩) (n + 1) (n + 1)) ∧ Sees w' (some ⟨g, 0, none⟩) (n + 1) (insAt rs p x) ∧ Below w.heap.size w w' := by
  have HS := hide hs
  have HA := hide ha
  clear hs ha
  unfold maxLen at _hcm
  obtain ⟨i, hi, hz, hsz, hby⟩ := info_parts info28
  obtain ⟨C, hC, hmk⟩ := make28 n (by omega)
  have HC := hide hC
  clear hC
  have HB0 : Hid (Below w.heap.size w ((w.alloc (.cells x.val.cells 28)).alloc (.cells C 28))) := ((Below.refl _ _).alloc (Nat.le_refl _) _).alloc (by simp) _
  have HO0 : Hid (((w.alloc (.cells x.val.cells 28)).alloc (.cells C 28)).ownsRow (w.heap.size + 1) 28 15 (.slice (some ⟨w.heap.size + 1, 0, none⟩) 0 (n + 1)) 0 []) := by
    have := World.ownsRow_made (base := w.heap.size + 1) (e := 28) (size := 15) (w.alloc (.cells x.val.cells 28)) C (n + 1) (by simp) (by unfold maxLen; omega) HC.out
    simp only [World.size_alloc] at this
    exact this
  go_enter Try.func11, Try.ntmps11
  go_wp2_with (at_builtin; refine wpList_append_fits_any _ rfl _ _ 22 rfl (w.heap.size + 1) 28 i 15 Try.underlying22 hi hsz (w.heap.size + 1) 0 (n + 1) [] rfl HO0.out a p cap (listOf (fun i => rs (0 + i)) p) rfl (listOf_length _ _) ?h1 ?h2 (listOf_oneCell _ _) ?h3 ?_)
  case h1 => exact fun e => by have := HA.out e; omega
  case h2 => exact listOf_cells (HS.out.below HB0.out) 0 p (by omega) (fun _ b off e => by rw [e]; simp)
  case h3 => omega
  intro w1 hown1 hg1
  have HB1 : Hid (Below w.heap.size w w1) := HB0.out.grown hg1 (by simp; omega) (fun k e => by have := Option.some.inj e; omega)
  have HO1 : Hid (w1.ownsRow (w.heap.size + 1) 28 15 (.slice (some ⟨w.heap.size + 1, 0, none⟩) p (n + 1)) p (listOf rs p)) := by
    have h : w1.ownsRow (w.heap.size + 1) 28 15 (.slice (some ⟨w.heap.size + 1, 0, none⟩) p (n + 1)) p (listOf rs p) := by simpa using hown1
    exact h
  have hz1 : w.heap.size + 1 < w1.heap.size := by have := hg1.size; simp at this; omega
  have hbx : ∀ j, j < 15 → w1.cell? ⟨w.heap.size, j, none⟩ = some (x.cell j) := fun j hj => hg1.cell ((Below.cell (((Below.refl (w.heap.size + 1) _).alloc (by simp) (.cells C 28))) (p := ⟨w.heap.size, j, none⟩) (by simp)).trans (box_cell w x j hj)) (by simp)
  have b0 := hbx 0 (by omega)
  have b1 := hbx 1 (by omega)
  have b2 := hbx 2 (by omega)
  have b3 := hbx 3 (by omega)
  have b4 := hbx 4 (by omega)
  have b5 := hbx 5 (by omega)
  have b6 := hbx 6 (by omega)
  have b7 := hbx 7 (by omega)
  have b8 := hbx 8 (by omega)
  have b9 := hbx 9 (by omega)
  have b10 := hbx 10 (by omega)
  have b11 := hbx 11 (by omega)
  have b12 := hbx 12 (by omega)
  have b13 := hbx 13 (by omega)
  have b14 := hbx 14 (by omega)
  simp only [Rep.cell] at b0 b1 b2 b3 b4 b5 b6 b7 b8 b9 b10 b11 b12 b13 b14
  clear hbx hown1 hg1 hmk
  have HO1' : Hid ((w1.alloc (.cells x.val.cells 28)).ownsRow (w.heap.size + 1) 28 15 (.slice (some ⟨w.heap.size + 1, 0, none⟩) p (n + 1)) p (listOf rs p)) := HO1.out.kept (World.grownBy_alloc w1 _ none) (.inr (by simp [Value.ownBlock]))
  go_wp2_with (at_builtin; refine wpList_append_fits_any _ rfl _ _ 22 rfl (w.heap.size + 1) 28 i 15 Try.underlying22 hi hsz (w.heap.size + 1) p (n + 1) _ rfl HO1'.out (some ⟨w1.heap.size, 0, none⟩) 1 1 (listOf (fun _ => x) 1) rfl (listOf_length _ _) ?h1 ?h2 (listOf_oneCell _ _) ?h3 ?_)
  case h1 => exact fun e => by cases e
  case h2 =>
    intro ad e t u hu
    obtain rfl := Option.some.inj e
    have ht : t < 15 := by
      have := (List.getElem?_eq_some_iff.1 hu).1
      simpa [listOf_length] using this
    have e2 := listOf_get (fun _ => x) 1 0 t (by omega) ht
    rw [show 0 * 15 + t = t by omega, hu] at e2
    rw [Option.some.inj e2, Addr.add_lit, Nat.zero_add]
    exact box_cell w1 x t ht
  case h3 => omega
  intro w2 hown2 hg2
  have HB2 : Hid (Below w.heap.size w w2) := (HB1.out.alloc HB1.out.size _).grown hg2 (by simp; omega) (fun k e => by have := Option.some.inj e; omega)
  have HO2 := hide hown2
  clear b0 b1 b2 b3 b4 b5 b6 b7 b8 b9 b10 b11 b12 b13 b14 hown2 hg2
  go_wp2_with (at_builtin; refine wpList_append_fits_any _ rfl _ _ 22 rfl (w.heap.size + 1) 28 i 15 Try.underlying22 hi hsz (w.heap.size + 1) (p + 1) (n + 1) _ rfl HO2.out _ (n - p) _ (listOf (fun i => rs (p + i)) (n - p)) rfl (listOf_length _ _) ?h1 ?h2 (listOf_oneCell _ _) ?h3 ?_)
  case h1.inl => intro _; omega
  case h1.inr => intro e; have := HA.out e; omega
  case h2.inl => exact listOf_cells (HS.out.below HB2.out) p (n - p) (by omega) (fun h => by omega)
  case h2.inr =>
    intro ad e j u hu
    have hj : j < (n - p) * 15 := by
      have := (List.getElem?_eq_some_iff.1 hu).1
      simpa [listOf_length] using this
    obtain ⟨_, b, off, ha, _, _⟩ := HS.out p (by omega)
    rw [ha] at e
    obtain rfl := Option.some.inj e
    rw [Addr.add_lit]
    exact listOf_cells (HS.out.below HB2.out) p (n - p) (by omega) (fun _ b' off' e' => by rw [ha] at e'; cases e'; rfl) _ rfl j u hu
  case h3 => omega
  all_goals
    intro w3 hown3 hg3
    have HB3 : Hid (Below w.heap.size w w3) := HB2.out.grown hg3 HB2.out.size (fun k e => by have := Option.some.inj e; omega)
    rw [show p + 1 + (n - p) = n + 1 by omega] at hown3 ⊢
    have HS3 : Hid (Sees w3 (some ⟨w.heap.size + 1, 0, none⟩) (n + 1) (insAt rs p x)) := sees_of_owns hown3 (fun i hi j hj => insAt_get rs p n x hp i j hi hj) (insAt_ok (fun i hi => (HS.out i hi).1) hx hp)
    clear hown3 hg3
    go_wp2
    go_ret
    exact ⟨w.heap.size + 1, by omega, rfl, HS3.out, HB3.out⟩
end Go.Proofs.Qxb6614952a
