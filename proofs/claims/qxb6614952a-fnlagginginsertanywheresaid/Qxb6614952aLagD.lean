import Derived.Test.Qxb6614952aLagC
namespace Go.Proofs.Qxb6614952a
open Go.RowKit

/-- '!=' on a record.Version. -/
theorem neq40 (s v s' v' : Int) (w : World) : (binOp .neq 40 (.agg #[.int .u64 s, .int .u64 v]) (.agg #[.int .u64 s', .int .u64 v'])).run Try.prog w = .ok (.bool (!(s == s' && v == v'))) w := by
  have hS : Try.prog.underlying 40 = some (.struct (Try.prog.fieldsOf 40)) := by kernel_rfl
  have hp : Try.prog.stoodInHeld 40 = false := by kernel_rfl
  rw [run_neq_struct, show (10000 : Nat) = 9999 + 1 from rfl, run_equalIn_agg w 9999 40 _ _ hS hp]
  simp only [Program.fieldsOf, Try.underlying40]
  go_simp
  by_cases h1 : s = s' <;> by_cases h2 : v = v' <;> simp [h1, h2]
theorem eqg40 : Try.prog.eqGuardType Try.prog.depth 40 = false := by kernel_rfl

theorem Mems.lower {w : World} {base base' : Nat} {v : Value} {l : List Rep} (h : Mems w base v l) (hb : base' ≤ base) : Mems w base' v l := by
  refine ⟨⟨h.own.1, ?_⟩, h.nil⟩
  rcases h.own.2 with hn | ⟨g, cap, cur, rfl, hbg, rest⟩
  · exact .inl hn
  · exact .inr ⟨g, cap, cur, rfl, Nat.le_trans hb hbg, rest⟩

/-- Those that are to be marked: none where one did not answer. -/
def unL (rs : Nat → Rep) (n : Nat) (nw : Rep) : List Rep := if anyB (fun i => (rs i).failed) n = true then [] else pick (fun r => unmk r nw) rs n
theorem unL_yes {rs : Nat → Rep} {n : Nat} {nw : Rep} (h : anyB (fun i => (rs i).failed) n = true) : unL rs n nw = [] := by unfold unL; rw [if_pos h]
theorem unL_no {rs : Nat → Rep} {n : Nat} {nw : Rep} (h : anyB (fun i => (rs i).failed) n = false) : unL rs n nw = pick (fun r => unmk r nw) rs n := by unfold unL; rw [if_neg (by rw [h]; simp)]

/-- A Record's box lies at block b. -/
def RBox (w : World) (b : Nat) (r : Rep) : Prop := b < w.heap.size ∧ ∀ j, j < 10 → w.cell? ⟨b, j, none⟩ = some (r.cell (4 + j))
theorem RBox.mk (w : World) (r : Rep) : RBox (w.alloc (.cells r.rec_.cells 42)) w.heap.size r := by
  refine ⟨by simp, fun j hj => ?_⟩
  have : j = 0 ∨ j = 1 ∨ j = 2 ∨ j = 3 ∨ j = 4 ∨ j = 5 ∨ j = 6 ∨ j = 7 ∨ j = 8 ∨ j = 9 := by omega
  rcases this with rfl | rfl | rfl | rfl | rfl | rfl | rfl | rfl | rfl | rfl <;> simp [go_sem, Rep.cell, Value.cells]
theorem RBox.below {w w' : World} {b : Nat} {r : Rep} (h : RBox w b r) (hb : Below w.heap.size w w') : RBox w' b r :=
  ⟨Nat.lt_of_lt_of_le h.1 hb.size, fun j hj => (hb.cell (p := ⟨b, j, none⟩) h.1).trans (h.2 j hj)⟩
theorem RBox.grown {w w' : World} {b : Nat} {r : Rep} {row : Option Nat} (h : RBox w b r) (hg : w.grownBy w' row) (hne : some b ≠ row) : RBox w' b r :=
  ⟨Nat.lt_of_lt_of_le h.1 hg.size, fun j hj => hg.cell (h.2 j hj) hne⟩
theorem mem_box (w : World) (r : Rep) : ∀ j u, (memL r)[j]? = some u → (w.alloc (.cells #[.string r.id, .string r.addr, .int .i64 r.state, .bool r.retired] 55)).cell? ((⟨w.heap.size, 0, none⟩ : Addr).add j) = some u := by
  intro j u hu
  have hj : j < 4 := by
    have := (List.getElem?_eq_some_iff.1 hu).1
    simpa [memL] using this
  rw [Addr.add_lit, Nat.zero_add]
  have : j = 0 ∨ j = 1 ∨ j = 2 ∨ j = 3 := by omega
  rcases this with rfl | rfl | rfl | rfl <;> (simp [memL] at hu; subst hu; simp [go_sem])
theorem zero55 : (Value.agg #[.string ByteArray.empty, .string ByteArray.empty, .int .i64 0, .bool false]).cells.size = 4 := rfl

set_option maxHeartbeats 1600000 in
theorem lagging_any (lo n : Nat) (rs : Nat → Rep) (nw : Rep) (v : Value) (w : World) (hn : n ≤ 16777216) (hv : IsAns w lo n rs v) :
    Calls Try.prog 18 #[v, nw.rec_] w fun e w' => ∃ v4 v5, e = .returned (.tuple #[v4, v5]) ∧ Mems w' w.heap.size v4 (pick (fun r => older r nw) rs n) ∧
      Mems w' w.heap.size v5 (unL rs n nw) ∧ Below w.heap.size w w' := by
  have HV := hide hv
  obtain ⟨gA, gR, gE, fA, fR, ev, _, _, _, rfl, hA, hcA, hR, hcR, hE, hcE⟩ := hv
  have HA := hide hA
  have HCA := hide hcA
  have HR := hide hR
  have HCR := hide hcR
  have HE := hide hE
  have HCE := hide hcE
  clear hA hcA hR hcR hE hcE
  obtain ⟨i, hi, hz, hsz, hby⟩ := info_parts info55
  obtain ⟨W0, hW0⟩ : ∃ W0, W0 = (w.alloc (.cells #[.slice (some ⟨gA, 0, none⟩) n n, .slice (some ⟨gR, 0, none⟩) n n, .slice (some ⟨gE, 0, none⟩) n n] 50)).alloc (.cells nw.rec_.cells 42) := ⟨_, rfl⟩
  have HW0 := hide hW0
  have HB0 : Hid (Below w.heap.size w W0) := by rw [hW0]; exact ((Below.refl _ _).alloc (Nat.le_refl _) _).alloc (by simp) _
  have HZ0 : Hid (W0.heap.size = w.heap.size + 2) := by
    have : W0.heap.size = w.heap.size + 2 := by rw [hW0]; simp
    exact this
  clear hW0
  go_enter Try.func18, Try.ntmps18
  go_wp2
  go_loopw [4, 5, 11] (fun a b i wr => ∃ k : Nat, k ≤ n ∧ i = .int .i64 k ∧ LInv W0 (w.heap.size + 2) wr a b (pick (fun r => older r nw) rs k) (pick (fun r => unmk r nw) rs k)) (fun _ _ i _ => n - (intOf i).toNat)
  case atStart =>
    refine ⟨0, Nat.zero_le _, rfl, ?_⟩
    have e := HW0.out
    show LInv W0 _ _ _ _ [] []
    rw [e]
    exact ⟨Below.refl _ _, by simp, Mems.empty _ _, Mems.empty _ _, .inl rfl⟩
  case round =>
    obtain ⟨k, hk, rfl, hI⟩ := hrel
    have HI := hide hI
    clear hI
    have HB : Hid (Below w.heap.size w wr) := HB0.out.trans (HI.out.bel.mono (by omega))
    have hbz := HI.out.bel.size
    rw [HZ0.out] at hbz
    have hbx : ∀ j v, W0.cell? ⟨w.heap.size, j, none⟩ = some v → wr.cell? ⟨w.heap.size, j, none⟩ = some v := fun j v h => (HI.out.bel.cell (p := ⟨w.heap.size, j, none⟩) (by simp)).trans h
    have b1 : wr.cell? ⟨w.heap.size, 0, none⟩ = some (.slice (some ⟨gA, 0, none⟩) n n) := hbx 0 _ (by rw [HW0.out]; simp [go_sem])
    have b2 : wr.cell? ⟨w.heap.size, 2, none⟩ = some (.slice (some ⟨gE, 0, none⟩) n n) := hbx 2 _ (by rw [HW0.out]; simp [go_sem])
    have HN : Hid (RBox wr (w.heap.size + 1) nw) := by
      have h : RBox W0 (w.heap.size + 1) nw := by
        rw [HW0.out]
        have := RBox.mk (w.alloc (.cells #[.slice (some ⟨gA, 0, none⟩) n n, .slice (some ⟨gR, 0, none⟩) n n, .slice (some ⟨gE, 0, none⟩) n n] 50)) nw
        simp only [World.size_alloc] at this
        exact this
      exact h.below (HI.out.bel.mono (by rw [HZ0.out]; omega))
    clear hbx
    have hz0 : w.heap.size < wr.heap.size := by omega
    have hz1 : w.heap.size + 1 < wr.heap.size := by omega
    clear hbz
    by_cases hlt : k < n
    · have hrR := rowIs_below HR.out HB.out
      have hrE := (rowIs_below HE.out HB.out).cell hlt
      have hzE : gE < wr.heap.size := (rowIs_below HE.out HB.out).lt
      have a0 := hrR.cell (i := k * 10) (by omega)
      rw [show k * 10 = k * 10 + 0 from rfl, HCR.out k hlt 0 (by omega)] at a0
      have a1 := hrR.cell (i := k * 10 + 1) (by omega)
      rw [HCR.out k hlt 1 (by omega)] at a1
      have a2 := hrR.cell (i := k * 10 + 2) (by omega)
      rw [HCR.out k hlt 2 (by omega)] at a2
      have a3 := hrR.cell (i := k * 10 + 3) (by omega)
      rw [HCR.out k hlt 3 (by omega)] at a3
      have a4 := hrR.cell (i := k * 10 + 4) (by omega)
      rw [HCR.out k hlt 4 (by omega)] at a4
      have a5 := hrR.cell (i := k * 10 + 5) (by omega)
      rw [HCR.out k hlt 5 (by omega)] at a5
      have a6 := hrR.cell (i := k * 10 + 6) (by omega)
      rw [HCR.out k hlt 6 (by omega)] at a6
      have a7 := hrR.cell (i := k * 10 + 7) (by omega)
      rw [HCR.out k hlt 7 (by omega)] at a7
      have a8 := hrR.cell (i := k * 10 + 8) (by omega)
      rw [HCR.out k hlt 8 (by omega)] at a8
      have a9 := hrR.cell (i := k * 10 + 9) (by omega)
      rw [HCR.out k hlt 9 (by omega)] at a9
      simp only [Rep.cell, Nat.add_zero] at a0 a1 a2 a3 a4 a5 a6 a7 a8 a9
      clear hrR
      have hpB := pick_succ (fun r => older r nw) rs k
      have hpU := pick_succ (fun r => unmk r nw) rs k
      have hlB := pick_length (fun r => older r nw) rs k
      have hlU := pick_length (fun r => unmk r nw) rs k
      have HPB := hide hpB
      have HPU := hide hpU
      clear hpB hpU
      rcases HCE.out k hlt with ⟨hfl, hev⟩ | ⟨hfl, ad, hev⟩
      · rw [hev] at hrE
        have HFL := hide hfl
        clear hfl hev
        have n0 : wr.cell? ⟨w.heap.size + 1, 0, none⟩ = some (.int .u64 nw.seq) := HN.out.2 0 (by omega)
        have n1 : wr.cell? ⟨w.heap.size + 1, 1, none⟩ = some (.int .u64 nw.vid) := HN.out.2 1 (by omega)
        go_wp2_with fail
        refine (version_any _ _ _ _ _).mono ?_
        rintro e w2 ⟨rfl, hb2⟩
        have HI2 := hide ((HI.out.alloc (.cells (rs k).rec_.cells 42)).below hb2)
        have HN2 := hide ((HN.out.below ((Below.refl _ _).alloc (Nat.le_refl _) (.cells (rs k).rec_.cells 42))).below hb2)
        have HR2 := hide ((RBox.mk wr (rs k)).below hb2)
        have HB2 : Hid (Below w.heap.size w w2) := HB0.out.trans (HI2.out.bel.mono (by omega))
        have hvo := verI_older (rs k).seq (rs k).vid nw.seq nw.vid
        generalize verI (rs k).seq (rs k).vid nw.seq nw.vid = V at hvo
        have hq := neq40 (rs k).seq (rs k).vid nw.seq nw.vid
        have hg40 := eqg40
        have hbox : ∀ wx {a b bl ul}, LInv W0 (w.heap.size + 2) wx a b bl ul → wx.cell? ⟨w.heap.size, 0, none⟩ = some (.slice (some ⟨gA, 0, none⟩) n n) := fun wx _ _ _ _ h => (h.bel.cell (p := ⟨w.heap.size, 0, none⟩) (by simp)).trans (by rw [HW0.out]; simp [go_sem])
        have HBOX := hide hbox
        clear hbox
        clear hb2 a0 a1 a2 a3 a4 a5 a6 a7 a8 a9 b1 b2 n0 n1 hrE
        cases hol : older (rs k) nw
        · have hV : ¬ V < 0 := by
            have e : older (rs k) nw = decide (V < 0) := hvo.symm
            rw [hol] at e
            simpa using e.symm
          have eB : pick (fun r => older r nw) rs (k + 1) = pick (fun r => older r nw) rs k := by rw [HPB.out, HFL.out, hol]; simp
          have EB := hide eB
          have HOL := hide hol
          clear hvo eB hol
          have n0 : w2.cell? ⟨w.heap.size + 1, 0, none⟩ = some (.int .u64 nw.seq) := HN2.out.2 0 (by omega)
          have n1 : w2.cell? ⟨w.heap.size + 1, 1, none⟩ = some (.int .u64 nw.vid) := HN2.out.2 1 (by omega)
          have r0 : w2.cell? ⟨wr.heap.size, 0, none⟩ = some (.int .u64 (rs k).seq) := HR2.out.2 0 (by omega)
          have r1 : w2.cell? ⟨wr.heap.size, 1, none⟩ = some (.int .u64 (rs k).vid) := HR2.out.2 1 (by omega)
          have r3 : w2.cell? ⟨wr.heap.size, 3, none⟩ = some (.bool (rs k).clean) := HR2.out.2 3 (by omega)
          have b0 : w2.cell? ⟨w.heap.size, 0, none⟩ = some (.slice (some ⟨gA, 0, none⟩) n n) := HBOX.out w2 HI2.out
          have hrA := rowIs_below HA.out HB2.out
          have m0 := hrA.cell (i := k * 4) (by omega)
          rw [show k * 4 = k * 4 + 0 from rfl, HCA.out k hlt 0 (by omega)] at m0
          have m1 := hrA.cell (i := k * 4 + 1) (by omega)
          rw [HCA.out k hlt 1 (by omega)] at m1
          have m2 := hrA.cell (i := k * 4 + 2) (by omega)
          rw [HCA.out k hlt 2 (by omega)] at m2
          have m3 := hrA.cell (i := k * 4 + 3) (by omega)
          rw [HCA.out k hlt 3 (by omega)] at m3
          simp only [Rep.cell, Nat.add_zero] at m0 m1 m2 m3
          clear hrA
          by_cases hsame : ((rs k).seq == nw.seq && (rs k).vid == nw.vid) = true
          · rw [hsame] at hq
            cases hcl : (rs k).clean
            · have eU : pick (fun r => unmk r nw) rs (k + 1) = pick (fun r => unmk r nw) rs k ++ [rs k] := by rw [HPU.out, HFL.out]; simp [unmk, hcl]
              have EU := hide eU
              rw [hcl] at r3
              clear eU hcl hsame
              have HO3 := hide (HI2.out.alloc (.cells #[.string (rs k).id, .string (rs k).addr, .int .i64 (rs k).state, .bool (rs k).retired] 55))
              go_wp2_with (at_builtin; refine wpList_append_own_at _ rfl _ _ 44 rfl (w.heap.size + 2) 55 i _ 4 48 Try.underlying44 hi hz hsz hby zero55 (by omega) u5 (pick (fun r => unmk r nw) rs k).length (memCells (pick (fun r => unmk r nw) rs k)) rfl HO3.out.m5.own ⟨w2.heap.size, 0, none⟩ 1 1 (memL (rs k)) rfl rfl (mem_box w2 (rs k)) (memL_oneCell (rs k)) ?h1 ?h2 ?h3 ?_)
              case h1 => unfold maxLen; omega
              case h2 => omega
              case h3 => have := HO3.out.bel.size; rw [HZ0.out] at this; exact this
              intro v3 w3 hown3 hg3 _ hat3
              have HI3 := hide (HO3.out.app5 hown3 hg3 (by simpa using hat3))
              clear n0 n1 r0 r1 r3 b0 m0 m1 m2 m3
              clear hown3 hg3 hat3
              go_wp2
              go_roundw
              case rel => exact ⟨k + 1, by omega, by go_num, by rw [EB.out, EU.out]; exact HI3.out⟩
              case measure => simp [intOf]; omega
            · have eU : pick (fun r => unmk r nw) rs (k + 1) = pick (fun r => unmk r nw) rs k := by rw [HPU.out, HFL.out]; simp [unmk, hcl, hsame]
              have EU := hide eU
              rw [hcl] at r3
              clear eU hcl hsame
              go_wp2
              go_roundw
              case rel => exact ⟨k + 1, by omega, by go_num, by rw [EB.out, EU.out]; exact HI2.out⟩
              case measure => simp [intOf]; omega
          · have hsame' : ((rs k).seq == nw.seq && (rs k).vid == nw.vid) = false := by simpa using hsame
            rw [hsame'] at hq
            have eU : pick (fun r => unmk r nw) rs (k + 1) = pick (fun r => unmk r nw) rs k ++ [rs k] := by rw [HPU.out, HFL.out]; simp [unmk, hsame']
            have EU := hide eU
            clear eU hsame hsame'
            have HO3 := hide (HI2.out.alloc (.cells #[.string (rs k).id, .string (rs k).addr, .int .i64 (rs k).state, .bool (rs k).retired] 55))
            go_wp2_with (at_builtin; refine wpList_append_own_at _ rfl _ _ 44 rfl (w.heap.size + 2) 55 i _ 4 48 Try.underlying44 hi hz hsz hby zero55 (by omega) u5 (pick (fun r => unmk r nw) rs k).length (memCells (pick (fun r => unmk r nw) rs k)) rfl HO3.out.m5.own ⟨w2.heap.size, 0, none⟩ 1 1 (memL (rs k)) rfl rfl (mem_box w2 (rs k)) (memL_oneCell (rs k)) ?h1 ?h2 ?h3 ?_)
            case h1 => unfold maxLen; omega
            case h2 => omega
            case h3 => have := HO3.out.bel.size; rw [HZ0.out] at this; exact this
            intro v3 w3 hown3 hg3 _ hat3
            have HI3 := hide (HO3.out.app5 hown3 hg3 (by simpa using hat3))
            clear n0 n1 r0 r1 r3 b0 m0 m1 m2 m3
            clear hown3 hg3 hat3
            go_wp2
            go_roundw
            case rel => exact ⟨k + 1, by omega, by go_num, by rw [EB.out, EU.out]; exact HI3.out⟩
            case measure => simp [intOf]; omega
        · have hV : V < 0 := by
            have e : older (rs k) nw = decide (V < 0) := hvo.symm
            rw [hol] at e
            simpa using e.symm
          have hu := older_unmk hol
          have hsame' : ((rs k).seq == nw.seq && (rs k).vid == nw.vid) = false := by
            cases hs : ((rs k).seq == nw.seq && (rs k).vid == nw.vid)
            · rfl
            · have h1 := hs
              simp only [Bool.and_eq_true, beq_iff_eq] at h1
              unfold older olderB at hol
              rw [if_pos h1.1, h1.2] at hol
              simp at hol
          rw [hsame'] at hq
          have eB : pick (fun r => older r nw) rs (k + 1) = pick (fun r => older r nw) rs k ++ [rs k] := by rw [HPB.out, HFL.out, hol]; simp
          have eU : pick (fun r => unmk r nw) rs (k + 1) = pick (fun r => unmk r nw) rs k ++ [rs k] := by rw [HPU.out, HFL.out, hu]; simp
          have EB := hide eB
          have EU := hide eU
          clear hvo eB eU hol hu hsame'
          have n0 : w2.cell? ⟨w.heap.size + 1, 0, none⟩ = some (.int .u64 nw.seq) := HN2.out.2 0 (by omega)
          have n1 : w2.cell? ⟨w.heap.size + 1, 1, none⟩ = some (.int .u64 nw.vid) := HN2.out.2 1 (by omega)
          have r0 : w2.cell? ⟨wr.heap.size, 0, none⟩ = some (.int .u64 (rs k).seq) := HR2.out.2 0 (by omega)
          have r1 : w2.cell? ⟨wr.heap.size, 1, none⟩ = some (.int .u64 (rs k).vid) := HR2.out.2 1 (by omega)
          have r3 : w2.cell? ⟨wr.heap.size, 3, none⟩ = some (.bool (rs k).clean) := HR2.out.2 3 (by omega)
          have b0 : w2.cell? ⟨w.heap.size, 0, none⟩ = some (.slice (some ⟨gA, 0, none⟩) n n) := HBOX.out w2 HI2.out
          have hrA := rowIs_below HA.out HB2.out
          have m0 := hrA.cell (i := k * 4) (by omega)
          rw [show k * 4 = k * 4 + 0 from rfl, HCA.out k hlt 0 (by omega)] at m0
          have m1 := hrA.cell (i := k * 4 + 1) (by omega)
          rw [HCA.out k hlt 1 (by omega)] at m1
          have m2 := hrA.cell (i := k * 4 + 2) (by omega)
          rw [HCA.out k hlt 2 (by omega)] at m2
          have m3 := hrA.cell (i := k * 4 + 3) (by omega)
          rw [HCA.out k hlt 3 (by omega)] at m3
          simp only [Rep.cell, Nat.add_zero] at m0 m1 m2 m3
          clear hrA
          have HO3 := hide (HI2.out.alloc (.cells #[.string (rs k).id, .string (rs k).addr, .int .i64 (rs k).state, .bool (rs k).retired] 55))
          go_wp2_with (at_builtin; refine wpList_append_own_at _ rfl _ _ 44 rfl (w.heap.size + 2) 55 i _ 4 48 Try.underlying44 hi hz hsz hby zero55 (by omega) u4 (pick (fun r => older r nw) rs k).length (memCells (pick (fun r => older r nw) rs k)) rfl HO3.out.m4.own ⟨w2.heap.size, 0, none⟩ 1 1 (memL (rs k)) rfl rfl (mem_box w2 (rs k)) (memL_oneCell (rs k)) ?h1 ?h2 ?h3 ?_)
          case h1 => unfold maxLen; omega
          case h2 => omega
          case h3 => have := HO3.out.bel.size; rw [HZ0.out] at this; exact this
          intro v3 w3 hown3 hg3 _ hat3
          have HI3 := hide (HO3.out.app4 hown3 hg3 (by simpa using hat3))
          have HN3 := hide ((HN2.out.below ((Below.refl _ _).alloc (Nat.le_refl _) (.cells #[.string (rs k).id, .string (rs k).addr, .int .i64 (rs k).state, .bool (rs k).retired] 55))).grown hg3 (fun e => by have := (HI2.out.m4.own.lt _ e.symm).1; omega))
          have HR3 := hide ((HR2.out.below ((Below.refl _ _).alloc (Nat.le_refl _) (.cells #[.string (rs k).id, .string (rs k).addr, .int .i64 (rs k).state, .bool (rs k).retired] 55))).grown hg3 (fun e => by have := (HI.out.m4.own.lt _ e.symm).2; omega))
          have HB3 : Hid (Below w.heap.size w w3) := HB0.out.trans (HI3.out.bel.mono (by omega))
          clear n0 n1 r0 r1 r3 b0 m0 m1 m2 m3
          clear hown3 hg3 hat3
          have n0 : w3.cell? ⟨w.heap.size + 1, 0, none⟩ = some (.int .u64 nw.seq) := HN3.out.2 0 (by omega)
          have n1 : w3.cell? ⟨w.heap.size + 1, 1, none⟩ = some (.int .u64 nw.vid) := HN3.out.2 1 (by omega)
          have r0 : w3.cell? ⟨wr.heap.size, 0, none⟩ = some (.int .u64 (rs k).seq) := HR3.out.2 0 (by omega)
          have r1 : w3.cell? ⟨wr.heap.size, 1, none⟩ = some (.int .u64 (rs k).vid) := HR3.out.2 1 (by omega)
          have r3 : w3.cell? ⟨wr.heap.size, 3, none⟩ = some (.bool (rs k).clean) := HR3.out.2 3 (by omega)
          have b0 : w3.cell? ⟨w.heap.size, 0, none⟩ = some (.slice (some ⟨gA, 0, none⟩) n n) := HBOX.out w3 HI3.out
          have hrA := rowIs_below HA.out HB3.out
          have m0 := hrA.cell (i := k * 4) (by omega)
          rw [show k * 4 = k * 4 + 0 from rfl, HCA.out k hlt 0 (by omega)] at m0
          have m1 := hrA.cell (i := k * 4 + 1) (by omega)
          rw [HCA.out k hlt 1 (by omega)] at m1
          have m2 := hrA.cell (i := k * 4 + 2) (by omega)
          rw [HCA.out k hlt 2 (by omega)] at m2
          have m3 := hrA.cell (i := k * 4 + 3) (by omega)
          rw [HCA.out k hlt 3 (by omega)] at m3
          simp only [Rep.cell, Nat.add_zero] at m0 m1 m2 m3
          clear hrA
          have HO4 := hide (HI3.out.alloc (.cells #[.string (rs k).id, .string (rs k).addr, .int .i64 (rs k).state, .bool (rs k).retired] 55))
          go_wp2_with (at_builtin; refine wpList_append_own_at _ rfl _ _ 44 rfl (w.heap.size + 2) 55 i _ 4 48 Try.underlying44 hi hz hsz hby zero55 (by omega) u5 (pick (fun r => unmk r nw) rs k).length (memCells (pick (fun r => unmk r nw) rs k)) rfl HO4.out.m5.own ⟨w3.heap.size, 0, none⟩ 1 1 (memL (rs k)) rfl rfl (mem_box w3 (rs k)) (memL_oneCell (rs k)) ?h1 ?h2 ?h3 ?_)
          case h1 => unfold maxLen; omega
          case h2 => omega
          case h3 => have := HO4.out.bel.size; rw [HZ0.out] at this; exact this
          intro v4 w4 hown4 hg4 _ hat4
          have HI4 := hide (HO4.out.app5 hown4 hg4 (by simpa using hat4))
          clear n0 n1 r0 r1 r3 b0 m0 m1 m2 m3
          clear hown4 hg4 hat4
          go_wp2
          go_roundw
          case rel => exact ⟨k + 1, by omega, by go_num, by rw [EB.out, EU.out]; exact HI4.out⟩
          case measure => simp [intOf]; omega
      · rw [hev] at hrE
        have HFL := hide hfl
        clear hfl hev
        go_wp2
        go_roundw
        case rel =>
          refine ⟨k + 1, by omega, by go_num, ?_⟩
          have e1 : pick (fun r => older r nw) rs (k + 1) = pick (fun r => older r nw) rs k := by rw [pick_succ, HFL.out]; simp
          have e2 : pick (fun r => unmk r nw) rs (k + 1) = pick (fun r => unmk r nw) rs k := by rw [pick_succ, HFL.out]; simp
          rw [e1, e2]
          exact HI.out.alloc _
        case measure => simp [intOf]; omega
    · obtain rfl : k = n := by omega
      have b3 : wr.cell? ⟨w.heap.size, 1, none⟩ = some (.slice (some ⟨gR, 0, none⟩) k k) := (HI.out.bel.cell (p := ⟨w.heap.size, 1, none⟩) (by simp)).trans (by rw [HW0.out]; simp [go_sem])
      go_wp2_with fail
      refine (silent_any lo k rs _ _ hn (HV.out.below HB.out)).mono ?_
      rintro e w2 ⟨rfl, hb2⟩
      have HI2 := hide (HI.out.below hb2)
      have HB2 := hide (HB.out.trans (hb2.mono HB.out.size))
      clear hb2 b1 b2 b3
      have HM4 : Hid (Mems w2 w.heap.size u4 (pick (fun r => older r nw) rs k)) := HI2.out.m4.lower (by omega)
      have HM5 : Hid (Mems w2 w.heap.size u5 (pick (fun r => unmk r nw) rs k)) := HI2.out.m5.lower (by omega)
      cases hany : anyB (fun i => (rs i).failed) k
      · have HU := hide (unL_no (nw := nw) hany)
        clear hany
        go_wp2
        go_ret2
        exact ⟨_, _, rfl, HM4.out, by rw [HU.out]; exact HM5.out, HB2.out⟩
      · have HU := hide (unL_yes (nw := nw) hany)
        clear hany
        go_wp2
        go_ret2
        exact ⟨_, _, rfl, HM4.out, by rw [HU.out]; exact Mems.empty _ _, HB2.out⟩
end Go.Proofs.Qxb6614952a
