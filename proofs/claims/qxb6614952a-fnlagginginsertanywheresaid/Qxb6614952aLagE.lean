import Derived.Test.Qxb6614952aLagD
namespace Go.Proofs.Qxb6614952a
open Go.RowKit

set_option maxHeartbeats 400000 in
theorem olderThan_any (r nw : Rep) (w : World) : Calls Try.prog 20 #[r.rec_, nw.rec_] w fun e w' => e = .returned (.bool (older r nw)) ∧ Below w.heap.size w w' := by
  by_cases c : r.seq = nw.seq
  · have e : older r nw = decide (r.vid < nw.vid) := by unfold older olderB; rw [if_pos c]
    rw [e]
    have hne : (r.seq != nw.seq) = false := by simp [c]
    clear c e
    go_enter Try.func20, Try.ntmps20
    go_wp2
    go_ret
    exact ⟨rfl, ((Below.refl _ _).alloc (Nat.le_refl _) _).alloc (by simp) _⟩
  · have e : older r nw = decide (r.seq < nw.seq) := by unfold older olderB; rw [if_neg c]
    rw [e]
    have hne : (r.seq != nw.seq) = true := by simp [c]
    clear c e
    go_enter Try.func20, Try.ntmps20
    go_wp2
    go_ret
    exact ⟨rfl, ((Below.refl _ _).alloc (Nat.le_refl _) _).alloc (by simp) _⟩

set_option maxHeartbeats 400000 in
theorem sameVersion_any (r nw : Rep) (w : World) : Calls Try.prog 22 #[r.rec_, nw.rec_] w fun e w' => e = .returned (.bool (r.seq == nw.seq && r.vid == nw.vid)) ∧ Below w.heap.size w w' := by
  cases c : (r.seq == nw.seq)
  · go_enter Try.func22, Try.ntmps22
    go_wp2
    go_ret
    exact ⟨rfl, ((Below.refl _ _).alloc (Nat.le_refl _) _).alloc (by simp) _⟩
  · go_enter Try.func22, Try.ntmps22
    go_wp2
    go_ret
    exact ⟨rfl, ((Below.refl _ _).alloc (Nat.le_refl _) _).alloc (by simp) _⟩

/-- The slice v reads as the members of l. -/
def MShape (w : World) (v : Value) (l : List Rep) : Prop :=
  ∃ a c, v = .slice a l.length c ∧ (a = none → c = 0) ∧ (0 < l.length → ∃ g, a = some ⟨g, 0, none⟩ ∧ g < w.heap.size ∧ ∀ t u, (memCells l)[t]? = some u → w.cell? ⟨g, t, none⟩ = some u)
theorem MShape.below {w w' : World} {v : Value} {l : List Rep} (h : MShape w v l) (hb : Below w.heap.size w w') : MShape w' v l := by
  obtain ⟨a, c, hv, hn, hc⟩ := h
  refine ⟨a, c, hv, hn, fun h0 => ?_⟩
  obtain ⟨g, ha, hg, hcell⟩ := hc h0
  exact ⟨g, ha, Nat.lt_of_lt_of_le hg hb.size, fun t u hu => (hb.cell (p := ⟨g, t, none⟩) hg).trans (hcell t u hu)⟩
theorem MShape.ofOwns {w : World} {base : Nat} {v : Value} {l : List Rep} (h : w.ownsRow base 55 4 v l.length (memCells l)) : MShape w v l := by
  rcases h.2 with ⟨rfl, hn⟩ | ⟨g, cap, cur, rfl, hbg, hgg, rest⟩
  · exact ⟨none, 0, by rw [hn], fun _ => rfl, fun h0 => by omega⟩
  · refine ⟨some ⟨g, 0, none⟩, cap, rfl, fun e => (by cases e), fun _ => ⟨g, rfl, (Array.getElem?_eq_some_iff.1 hgg).1, fun t u hu => ?_⟩⟩
    have := h.cells (g := g) rfl t u hu
    rw [Addr.add_lit, Nat.zero_add] at this
    exact this
theorem Mems.shape {w : World} {base : Nat} {v : Value} {l : List Rep} (h : Mems w base v l) : MShape w v l := MShape.ofOwns h.own

/-- '!=' on a view.Member that is the same. -/
theorem neq55 (r : Rep) (w : World) : (binOp .neq 55 (.agg #[.string r.id, .string r.addr, .int .i64 r.state, .bool r.retired]) (.agg #[.string r.id, .string r.addr, .int .i64 r.state, .bool r.retired])).run Try.prog w = .ok (.bool false) w := by
  have hS : Try.prog.underlying 55 = some (.struct (Try.prog.fieldsOf 55)) := by kernel_rfl
  have hp : Try.prog.stoodInHeld 55 = false := by kernel_rfl
  rw [run_neq_struct, show (10000 : Nat) = 9999 + 1 from rfl, run_equalIn_agg w 9999 55 _ _ hS hp]
  simp only [Program.fieldsOf, Try.underlying55]
  go_simp
theorem eqg55 : Try.prog.eqGuardType Try.prog.depth 55 = false := by kernel_rfl

set_option maxHeartbeats 800000 in
theorem sameMembers_any (v1 v2 : Value) (l : List Rep) (w : World) (hl : l.length ≤ 16777216) (h1 : MShape w v1 l) (h2 : MShape w v2 l) :
    Calls Try.prog 23 #[v1, v2] w fun e w' => e = .returned (.bool true) ∧ Below w.heap.size w w' := by
  obtain ⟨a1, c1, rfl, _, hc1⟩ := h1
  obtain ⟨a2, c2, rfl, _, hc2⟩ := h2
  have H1 := hide hc1
  have H2 := hide hc2
  clear hc1 hc2
  have HG : ∀ i (hi : i < l.length) j, j < 4 → (memCells l)[i * 4 + j]? = some (l[i].cell j) := fun i hi j hj => memCells_get l i j hi hj
  have HGG := hide HG
  clear HG
  obtain ⟨n, hn⟩ : ∃ n, l.length = n := ⟨_, rfl⟩
  rw [hn] at hl ⊢
  have HN := hide hn
  clear hn
  have hq : ∀ r w, _ := neq55
  have hg55 := eqg55
  go_enter Try.func23, Try.ntmps23
  go_wp2
  go_loopw [5] (fun i wr => ∃ k : Nat, k ≤ n ∧ i = .int .i64 k ∧ ∃ m, wr = w.drewN m) (fun i _ => n - (intOf i).toNat)
  case atStart => exact ⟨0, Nat.zero_le _, rfl, 0, rfl⟩
  case round =>
    obtain ⟨k, hk, rfl, m, rfl⟩ := hrel
    by_cases hlt : k < n
    · obtain ⟨g1, ha1, _, hx1⟩ := H1.out (by rw [HN.out]; omega)
      obtain ⟨g2, ha2, _, hx2⟩ := H2.out (by rw [HN.out]; omega)
      have hkl : k < l.length := by rw [HN.out]; exact hlt
      have p0 := hx1 _ _ (HGG.out k hkl 0 (by omega))
      have p1 := hx1 _ _ (HGG.out k hkl 1 (by omega))
      have p2 := hx1 _ _ (HGG.out k hkl 2 (by omega))
      have p3 := hx1 _ _ (HGG.out k hkl 3 (by omega))
      have q0 := hx2 _ _ (HGG.out k hkl 0 (by omega))
      have q1 := hx2 _ _ (HGG.out k hkl 1 (by omega))
      have q2 := hx2 _ _ (HGG.out k hkl 2 (by omega))
      have q3 := hx2 _ _ (HGG.out k hkl 3 (by omega))
      generalize l[k] = r at p0 p1 p2 p3 q0 q1 q2 q3
      simp only [Rep.cell, Nat.add_zero] at p0 p1 p2 p3 q0 q1 q2 q3
      subst ha1 ha2
      clear hx1 hx2 hkl
      have hqr := hq r
      have hlt' : (k : Int) < (n : Int) := by omega
      go_wp2
      go_quiet (fail)
      go_wp2
      go_roundw
      case rel => exact ⟨k + 1, by omega, by go_num, _, rfl⟩
      case measure => simp [intOf]; omega
    · go_wp2
      go_ret
      exact ⟨rfl, below_drewN (Below.refl _ _) _⟩

theorem make44 (n : Nat) (c : Int) (hc : c = (n : Int)) (hn : n ≤ 67108864) : ∃ C : Array Value, C.size = n * 4 ∧ ∀ w : World, (Instr.makeSlice 44 (.int .i64 0) (.int .i64 c)).run Try.prog w = .ok (.slice (some ⟨w.heap.size, 0, none⟩) 0 n) (w.alloc (.cells C 55)) := by
  subst hc
  obtain ⟨i, hi, hz, hs, hb⟩ := info_parts info55
  refine ⟨madeCells (Value.agg #[.string ByteArray.empty, .string ByteArray.empty, .int .i64 0, .bool false]).cells (n * 4), size_madeCells _ _, fun w => ?_⟩
  have hr := run_make (P := Try.prog) w 44 55 i _ Try.underlying44 hi hz .i64 .i64 0 (n : Int) (by omega) (by omega) (by rw [hb]; omega) (by omega)
  rw [hs] at hr
  simp only [Int.toNat_natCast] at hr
  exact hr

theorem MShape.src {w : World} {a : Option Addr} {c : Nat} {l : List Rep} (h : MShape w (.slice a l.length c) l) : (a = none → l.length = 0 ∧ c = 0) ∧ ∀ ad, a = some ad → ∀ j u, (memCells l)[j]? = some u → w.cell? (ad.add j) = some u := by
  obtain ⟨a', c', hv, hn, hc⟩ := h
  obtain ⟨rfl, rfl⟩ : a = a' ∧ c = c' := by cases hv; exact ⟨rfl, rfl⟩
  refine ⟨fun e => ⟨?_, hn e⟩, fun ad e j u hu => ?_⟩
  · by_cases h0 : 0 < l.length
    · obtain ⟨g, ha, _⟩ := hc h0
      rw [e] at ha; cases ha
    · omega
  · have hj : j < l.length * 4 := by
      have := (List.getElem?_eq_some_iff.1 hu).1
      rw [memCells_length] at this
      exact this
    obtain ⟨g, ha, _, hcell⟩ := hc (by omega)
    rw [e] at ha
    obtain rfl := Option.some.inj ha
    rw [Addr.add_lit, Nat.zero_add]
    exact hcell j u hu

set_option maxHeartbeats 800000 in
theorem joinMembers_any (v1 v2 v3 : Value) (l1 l2 l3 : List Rep) (w : World) (hl1 : l1.length ≤ 16777216) (hl2 : l2.length ≤ 16777216) (hl3 : l3.length ≤ 16777216) (h1 : MShape w v1 l1) (h2 : MShape w v2 l2) (h3 : MShape w v3 l3) :
    Calls Try.prog 24 #[v1, v2, v3] w fun e w' => ∃ v, e = .returned v ∧ MShape w' v (l1 ++ l2 ++ l3) ∧ Below w.heap.size w w' := by
  have H1 := hide h1
  have H2 := hide h2
  have H3 := hide h3
  obtain ⟨a1, c1, rfl, _, _⟩ := h1
  obtain ⟨a2, c2, rfl, _, _⟩ := h2
  obtain ⟨a3, c3, rfl, _, _⟩ := h3
  have HM1 := hide (memCells_length l1)
  have HM2 := hide (memCells_length l2)
  have HM3 := hide (memCells_length l3)
  have HAP : Hid (memCells (l1 ++ l2 ++ l3) = memCells l1 ++ memCells l2 ++ memCells l3 ∧ (l1 ++ l2 ++ l3).length = l1.length + l2.length + l3.length) := ⟨by rw [memCells_append, memCells_append], by simp [Nat.add_assoc]⟩
  have O1 := hide (memCells_oneCell l1)
  have O2 := hide (memCells_oneCell l2)
  have O3 := hide (memCells_oneCell l3)
  obtain ⟨n1, hn1⟩ : ∃ n, l1.length = n := ⟨_, rfl⟩
  obtain ⟨n2, hn2⟩ : ∃ n, l2.length = n := ⟨_, rfl⟩
  obtain ⟨n3, hn3⟩ : ∃ n, l3.length = n := ⟨_, rfl⟩
  have S1 := hide (fun wx (h : MShape wx (.slice a1 l1.length c1) l1) => h.src)
  have S2 := hide (fun wx (h : MShape wx (.slice a2 l2.length c2) l2) => h.src)
  have S3 := hide (fun wx (h : MShape wx (.slice a3 l3.length c3) l3) => h.src)
  rw [hn1] at hl1 HM1 HAP H1 S1 ⊢
  rw [hn2] at hl2 HM2 HAP H2 S2 ⊢
  rw [hn3] at hl3 HM3 HAP H3 S3 ⊢
  generalize memCells l1 = x1 at *
  generalize memCells l2 = x2 at *
  generalize memCells l3 = x3 at *
  clear hn1 hn2 hn3
  obtain ⟨i, hi, hz, hsz, hby⟩ := info_parts info55
  obtain ⟨C, hC, hmk⟩ := make44 (n1 + n2 + n3) ((n1 : Int) + n2 + n3) (by omega) (by omega)
  have HO0 : Hid ((w.alloc (.cells C 55)).ownsRow w.heap.size 55 4 (.slice (some ⟨w.heap.size, 0, none⟩) 0 (n1 + n2 + n3)) 0 []) := World.ownsRow_made (base := w.heap.size) (e := 55) (size := 4) w C (n1 + n2 + n3) (Nat.le_refl _) (by unfold maxLen; omega) hC
  have HB0 : Hid (Below w.heap.size w (w.alloc (.cells C 55))) := (Below.refl _ _).alloc (Nat.le_refl _) _
  clear hC
  go_enter Try.func24, Try.ntmps24
  go_wp2_with (at_builtin; refine wpList_append_fits_any _ rfl _ _ 44 rfl w.heap.size 55 i 4 Try.underlying44 hi hsz w.heap.size 0 (n1 + n2 + n3) [] rfl HO0.out a1 n1 c1 x1 rfl HM1.out ?h1 ?h2 O1.out ?h3 ?_)
  case h1 => exact (S1.out _ (H1.out.below HB0.out)).1
  case h2 => exact (S1.out _ (H1.out.below HB0.out)).2
  case h3 => omega
  intro w1 hown1 hg1
  have HB1 : Hid (Below w.heap.size w w1) := HB0.out.grown hg1 (by simp) (fun k e => by have := Option.some.inj e; omega)
  have HO1 : Hid (w1.ownsRow w.heap.size 55 4 (.slice (some ⟨w.heap.size, 0, none⟩) n1 (n1 + n2 + n3)) n1 x1) := by
    have h : w1.ownsRow w.heap.size 55 4 (.slice (some ⟨w.heap.size, 0, none⟩) n1 (n1 + n2 + n3)) n1 x1 := by simpa using hown1
    exact h
  clear hown1 hg1 hmk
  go_wp2_with (at_builtin; refine wpList_append_fits_any _ rfl _ _ 44 rfl w.heap.size 55 i 4 Try.underlying44 hi hsz w.heap.size n1 (n1 + n2 + n3) x1 rfl HO1.out a2 n2 c2 x2 rfl HM2.out ?h1 ?h2 O2.out ?h3 ?_)
  case h1 => exact (S2.out _ (H2.out.below HB1.out)).1
  case h2 => exact (S2.out _ (H2.out.below HB1.out)).2
  case h3 => omega
  intro w2 hown2 hg2
  have HB2 : Hid (Below w.heap.size w w2) := HB1.out.grown hg2 HB1.out.size (fun k e => by have := Option.some.inj e; omega)
  have HO2 := hide hown2
  clear hown2 hg2
  go_wp2_with (at_builtin; refine wpList_append_fits_any _ rfl _ _ 44 rfl w.heap.size 55 i 4 Try.underlying44 hi hsz w.heap.size (n1 + n2) (n1 + n2 + n3) _ rfl HO2.out a3 n3 c3 x3 rfl HM3.out ?h1 ?h2 O3.out ?h3 ?_)
  case h1 => exact (S3.out _ (H3.out.below HB2.out)).1
  case h2 => exact (S3.out _ (H3.out.below HB2.out)).2
  case h3 => omega
  intro w3 hown3 hg3
  have HB3 : Hid (Below w.heap.size w w3) := HB2.out.grown hg3 HB2.out.size (fun k e => by have := Option.some.inj e; omega)
  have HO3 : Hid (MShape w3 (.slice (some ⟨w.heap.size, 0, none⟩) (n1 + n2 + n3) (n1 + n2 + n3)) (l1 ++ l2 ++ l3)) := by
    refine MShape.ofOwns (base := w.heap.size) ?_
    rw [HAP.out.1, HAP.out.2]
    simpa using hown3
  clear hown3 hg3
  go_wp2
  go_ret
  exact ⟨_, rfl, HO3.out, HB3.out⟩
end Go.Proofs.Qxb6614952a
