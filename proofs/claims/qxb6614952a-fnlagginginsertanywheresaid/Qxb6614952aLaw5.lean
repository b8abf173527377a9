import Derived.Test.Qxb6614952aLagE
import Derived.Test.Qxb6614952aZz15
import Derived.Test.Qxb6614952aIns
import Derived.Deep.DeepCutAuto
namespace Go.Proofs.Qxb6614952a
open Go.RowKit

/-- x's box lies at block b. -/
def BoxX (w : World) (b : Nat) (x : Rep) : Prop := b < w.heap.size ∧ ∀ j, j < 15 → w.cell? ⟨b, j, none⟩ = some (x.cell j)
theorem BoxX.below {w w' : World} {b : Nat} {x : Rep} (h : BoxX w b x) (hb : Below w.heap.size w w') : BoxX w' b x :=
  ⟨Nat.lt_of_lt_of_le h.1 hb.size, fun j hj => (hb.cell (p := ⟨b, j, none⟩) h.1).trans (h.2 j hj)⟩
theorem BoxX.cells {w : World} {b : Nat} {x : Rep} (h : BoxX w b x) : w.cell? ⟨b, 0, none⟩ = some (.string x.id) ∧ w.cell? ⟨b, 1, none⟩ = some (.string x.addr) ∧ w.cell? ⟨b, 2, none⟩ = some (.int .i64 x.state) ∧ w.cell? ⟨b, 3, none⟩ = some (.bool x.retired) ∧ w.cell? ⟨b, 4, none⟩ = some (.int .u64 x.seq) ∧ w.cell? ⟨b, 5, none⟩ = some (.int .u64 x.vid) ∧ w.cell? ⟨b, 6, none⟩ = some (.bool x.deleted) ∧ w.cell? ⟨b, 7, none⟩ = some (.bool x.clean) ∧ w.cell? ⟨b, 8, none⟩ = some (.bool x.settled) ∧ w.cell? ⟨b, 9, none⟩ = some (.bool x.away) ∧ w.cell? ⟨b, 10, none⟩ = some (.bool x.short) ∧ w.cell? ⟨b, 11, none⟩ = some (.bool x.held) ∧ w.cell? ⟨b, 12, none⟩ = some (.int .u64 x.taken) ∧ w.cell? ⟨b, 13, none⟩ = some (.slice x.va x.vlen x.vcap) ∧ w.cell? ⟨b, 14, none⟩ = some (.bool x.failed) :=
  ⟨h.2 0 (by omega), h.2 1 (by omega), h.2 2 (by omega), h.2 3 (by omega), h.2 4 (by omega), h.2 5 (by omega), h.2 6 (by omega), h.2 7 (by omega), h.2 8 (by omega), h.2 9 (by omega), h.2 10 (by omega), h.2 11 (by omega), h.2 12 (by omega), h.2 13 (by omega), h.2 14 (by omega)⟩
theorem RBox.cells {w : World} {b : Nat} {nw : Rep} (h : RBox w b nw) : w.cell? ⟨b, 0, none⟩ = some (.int .u64 nw.seq) ∧ w.cell? ⟨b, 1, none⟩ = some (.int .u64 nw.vid) ∧ w.cell? ⟨b, 2, none⟩ = some (.bool nw.deleted) ∧ w.cell? ⟨b, 3, none⟩ = some (.bool nw.clean) ∧ w.cell? ⟨b, 4, none⟩ = some (.bool nw.settled) ∧ w.cell? ⟨b, 5, none⟩ = some (.bool nw.away) ∧ w.cell? ⟨b, 6, none⟩ = some (.bool nw.short) ∧ w.cell? ⟨b, 7, none⟩ = some (.bool nw.held) ∧ w.cell? ⟨b, 8, none⟩ = some (.int .u64 nw.taken) ∧ w.cell? ⟨b, 9, none⟩ = some (.slice nw.va nw.vlen nw.vcap) :=
  ⟨h.2 0 (by omega), h.2 1 (by omega), h.2 2 (by omega), h.2 3 (by omega), h.2 4 (by omega), h.2 5 (by omega), h.2 6 (by omega), h.2 7 (by omega), h.2 8 (by omega), h.2 9 (by omega)⟩
theorem RBox.mk26 (w : World) (r : Rep) : RBox (w.alloc (.cells r.rec_.cells 26)) w.heap.size r := by
  refine ⟨by simp, fun j hj => ?_⟩
  have : j = 0 ∨ j = 1 ∨ j = 2 ∨ j = 3 ∨ j = 4 ∨ j = 5 ∨ j = 6 ∨ j = 7 ∨ j = 8 ∨ j = 9 := by omega
  rcases this with rfl | rfl | rfl | rfl | rfl | rfl | rfl | rfl | rfl | rfl <;> simp [go_sem, Rep.cell, Value.cells]

/-- The law's two boxes stand; nothing that was there has turned. -/
structure XInv (w wx : World) (x nw : Rep) : Prop where
  bel : Below w.heap.size w wx
  bx : BoxX wx w.heap.size x
  bn : RBox wx (w.heap.size + 1) nw
theorem XInv.below {w wx wy : World} {x nw : Rep} (h : XInv w wx x nw) (hb : Below wx.heap.size wx wy) : XInv w wy x nw :=
  ⟨h.bel.trans (hb.mono h.bel.size), h.bx.below hb, h.bn.below hb⟩
theorem XInv.drew {w wx : World} {x nw : Rep} (h : XInv w wx x nw) : XInv w wx.drew x nw := h.below (Below.refl _ _).drew
theorem XInv.start (w : World) (x nw : Rep) : XInv w ((w.alloc (.cells x.val.cells 28)).alloc (.cells nw.rec_.cells 26)) x nw := by
  have hb : Below (w.alloc (.cells x.val.cells 28)).heap.size (w.alloc (.cells x.val.cells 28)) ((w.alloc (.cells x.val.cells 28)).alloc (.cells nw.rec_.cells 26)) := (Below.refl _ _).alloc (Nat.le_refl _) _
  refine ⟨((Below.refl _ _).alloc (Nat.le_refl _) _).alloc (by simp) _, BoxX.below ⟨by simp, fun j hj => box_cell w x j hj⟩ hb, ?_⟩
  have := RBox.mk26 (w.alloc (.cells x.val.cells 28)) nw
  simp only [World.size_alloc] at this
  exact this
theorem XInv.cells {w wx : World} {x nw : Rep} (h : XInv w wx x nw) : wx.cell? ⟨w.heap.size, 0, none⟩ = some (.string x.id) ∧ wx.cell? ⟨w.heap.size, 1, none⟩ = some (.string x.addr) ∧ wx.cell? ⟨w.heap.size, 2, none⟩ = some (.int .i64 x.state) ∧ wx.cell? ⟨w.heap.size, 3, none⟩ = some (.bool x.retired) ∧ wx.cell? ⟨w.heap.size, 4, none⟩ = some (.int .u64 x.seq) ∧ wx.cell? ⟨w.heap.size, 5, none⟩ = some (.int .u64 x.vid) ∧ wx.cell? ⟨w.heap.size, 6, none⟩ = some (.bool x.deleted) ∧ wx.cell? ⟨w.heap.size, 7, none⟩ = some (.bool x.clean) ∧ wx.cell? ⟨w.heap.size, 8, none⟩ = some (.bool x.settled) ∧ wx.cell? ⟨w.heap.size, 9, none⟩ = some (.bool x.away) ∧ wx.cell? ⟨w.heap.size, 10, none⟩ = some (.bool x.short) ∧ wx.cell? ⟨w.heap.size, 11, none⟩ = some (.bool x.held) ∧ wx.cell? ⟨w.heap.size, 12, none⟩ = some (.int .u64 x.taken) ∧ wx.cell? ⟨w.heap.size, 13, none⟩ = some (.slice x.va x.vlen x.vcap) ∧ wx.cell? ⟨w.heap.size, 14, none⟩ = some (.bool x.failed) ∧ wx.cell? ⟨w.heap.size + 1, 0, none⟩ = some (.int .u64 nw.seq) ∧ wx.cell? ⟨w.heap.size + 1, 1, none⟩ = some (.int .u64 nw.vid) ∧ wx.cell? ⟨w.heap.size + 1, 2, none⟩ = some (.bool nw.deleted) ∧ wx.cell? ⟨w.heap.size + 1, 3, none⟩ = some (.bool nw.clean) ∧ wx.cell? ⟨w.heap.size + 1, 4, none⟩ = some (.bool nw.settled) ∧ wx.cell? ⟨w.heap.size + 1, 5, none⟩ = some (.bool nw.away) ∧ wx.cell? ⟨w.heap.size + 1, 6, none⟩ = some (.bool nw.short) ∧ wx.cell? ⟨w.heap.size + 1, 7, none⟩ = some (.bool nw.held) ∧ wx.cell? ⟨w.heap.size + 1, 8, none⟩ = some (.int .u64 nw.taken) ∧ wx.cell? ⟨w.heap.size + 1, 9, none⟩ = some (.slice nw.va nw.vlen nw.vcap) := by
  obtain ⟨c0, c1, c2, c3, c4, c5, c6, c7, c8, c9, c10, c11, c12, c13, c14⟩ := h.bx.cells
  exact ⟨c0, c1, c2, c3, c4, c5, c6, c7, c8, c9, c10, c11, c12, c13, c14, h.bn.cells⟩
theorem XInv.cellsN {w wx : World} {x nw : Rep} {bN : Nat} (h : XInv w wx x nw) (hN : RBox wx bN nw) : wx.cell? ⟨w.heap.size, 0, none⟩ = some (.string x.id) ∧ wx.cell? ⟨w.heap.size, 1, none⟩ = some (.string x.addr) ∧ wx.cell? ⟨w.heap.size, 2, none⟩ = some (.int .i64 x.state) ∧ wx.cell? ⟨w.heap.size, 3, none⟩ = some (.bool x.retired) ∧ wx.cell? ⟨w.heap.size, 4, none⟩ = some (.int .u64 x.seq) ∧ wx.cell? ⟨w.heap.size, 5, none⟩ = some (.int .u64 x.vid) ∧ wx.cell? ⟨w.heap.size, 6, none⟩ = some (.bool x.deleted) ∧ wx.cell? ⟨w.heap.size, 7, none⟩ = some (.bool x.clean) ∧ wx.cell? ⟨w.heap.size, 8, none⟩ = some (.bool x.settled) ∧ wx.cell? ⟨w.heap.size, 9, none⟩ = some (.bool x.away) ∧ wx.cell? ⟨w.heap.size, 10, none⟩ = some (.bool x.short) ∧ wx.cell? ⟨w.heap.size, 11, none⟩ = some (.bool x.held) ∧ wx.cell? ⟨w.heap.size, 12, none⟩ = some (.int .u64 x.taken) ∧ wx.cell? ⟨w.heap.size, 13, none⟩ = some (.slice x.va x.vlen x.vcap) ∧ wx.cell? ⟨w.heap.size, 14, none⟩ = some (.bool x.failed) ∧ wx.cell? ⟨bN, 0, none⟩ = some (.int .u64 nw.seq) ∧ wx.cell? ⟨bN, 1, none⟩ = some (.int .u64 nw.vid) ∧ wx.cell? ⟨bN, 2, none⟩ = some (.bool nw.deleted) ∧ wx.cell? ⟨bN, 3, none⟩ = some (.bool nw.clean) ∧ wx.cell? ⟨bN, 4, none⟩ = some (.bool nw.settled) ∧ wx.cell? ⟨bN, 5, none⟩ = some (.bool nw.away) ∧ wx.cell? ⟨bN, 6, none⟩ = some (.bool nw.short) ∧ wx.cell? ⟨bN, 7, none⟩ = some (.bool nw.held) ∧ wx.cell? ⟨bN, 8, none⟩ = some (.int .u64 nw.taken) ∧ wx.cell? ⟨bN, 9, none⟩ = some (.slice nw.va nw.vlen nw.vcap) := by
  obtain ⟨c0, c1, c2, c3, c4, c5, c6, c7, c8, c9, c10, c11, c12, c13, c14⟩ := h.bx.cells
  exact ⟨c0, c1, c2, c3, c4, c5, c6, c7, c8, c9, c10, c11, c12, c13, c14, hN.cells⟩

theorem sees_take {w : World} {a : Option Addr} {n : Nat} {rs : Nat → Rep} (h : Sees w a n rs) {k : Nat} (hk : k ≤ n) : Sees w a k rs := fun i hi => h i (by omega)
theorem sees_empty (w : World) (a : Option Addr) (rs : Nat → Rep) : Sees w a 0 rs := fun i hi => absurd hi (Nat.not_lt_zero i)
theorem sees_drop {w : World} {a : Option Addr} {n : Nat} {rs : Nat → Rep} (h : Sees w a n rs) {k : Nat} (_hk : k ≤ n) : Sees w (Option.map (fun x => x.add (k * 15)) a) (n - k) (fun i => rs (k + i)) := by
  intro i hi
  obtain ⟨ho, b, off, ha, hlt, hc⟩ := h (k + i) (by omega)
  subst ha
  refine ⟨ho, b, off + k * 15, by simp [Addr.add_lit], hlt, fun j hj => ?_⟩
  rw [show off + k * 15 + i * 15 + j = off + (k + i) * 15 + j by omega]
  exact hc j hj

/-- x's own verdict. -/
def midL (b : Bool) (x : Rep) : List Rep := if b = true then [x] else []

theorem range_ins (rs : Nat → Rep) (q n : Nat) (x : Rep) (hq : q ≤ n) : (List.range (n + 1)).map (insAt rs q x) = (List.range q).map rs ++ [x] ++ (List.range (n - q)).map (fun i => rs (q + i)) := by
  apply List.ext_getElem
  · simp; omega
  · intro i h1 h2
    simp at h1
    rw [List.getElem_map, List.getElem_range]
    unfold insAt
    by_cases c1 : i < q
    · rw [if_pos c1, List.getElem_append_left (by simp; omega), List.getElem_append_left (by simpa using c1), List.getElem_map, List.getElem_range]
    · rw [if_neg c1]
      by_cases c2 : i = q
      · subst c2
        rw [if_pos rfl, List.getElem_append_left (by simp), List.getElem_append_right (by simp)]
        simp
      · rw [if_neg c2, List.getElem_append_right (by simp; omega), List.getElem_map, List.getElem_range]
        congr 1
        simp
        omega
theorem pick_ins (c : Rep → Bool) (rs : Nat → Rep) (q n : Nat) (x : Rep) (hq : q ≤ n) : pick c (insAt rs q x) (n + 1) = pick c rs q ++ midL (!x.failed && c x) x ++ pick c (fun i => rs (q + i)) (n - q) := by
  unfold pick midL
  rw [range_ins rs q n x hq, List.filter_append, List.filter_append]
  congr 2
  simp [List.filter_cons]
theorem anyB_ins (rs : Nat → Rep) (q n : Nat) (x : Rep) (hq : q ≤ n) : anyB (fun i => (insAt rs q x i).failed) (n + 1) = (x.failed || anyB (fun i => (rs i).failed) n) := by
  rw [Bool.eq_iff_iff, Bool.or_eq_true]
  unfold anyB
  simp only [List.any_eq_true, List.mem_range]
  constructor
  · rintro ⟨i, hi, h⟩
    unfold insAt at h
    split at h
    · exact .inr ⟨i, by omega, h⟩
    · split at h
      · exact .inl h
      · exact .inr ⟨i - 1, by omega, h⟩
  · rintro (h | ⟨i, hi, h⟩)
    · exact ⟨q, by omega, by unfold insAt; rw [if_neg (by omega), if_pos rfl]; exact h⟩
    · by_cases c : i < q
      · exact ⟨i, by omega, by unfold insAt; rw [if_pos c]; exact h⟩
      · exact ⟨i + 1, by omega, by unfold insAt; rw [if_neg (by omega), if_neg (by omega), Nat.add_sub_cancel]; exact h⟩
theorem Mems.isNil {w : World} {base : Nat} {v : Value} {l : List Rep} (h : Mems w base v l) : ∃ a c b, v = .slice a l.length c ∧ a.isNone = b ∧ ((l.length : Int) == 0) = b := by
  by_cases h0 : l = []
  · rw [h.nil h0, h0]
    exact ⟨none, 0, true, rfl, rfl, rfl⟩
  · have hl : 0 < l.length := List.length_pos_iff.2 h0
    rcases h.own.2 with ⟨_, hn⟩ | ⟨g, cap, cur, rfl, _⟩
    · omega
    · refine ⟨some ⟨g, 0, none⟩, cap, false, rfl, rfl, ?_⟩
      simp
      exact h0
theorem eql44 (a : Option Addr) (n c : Nat) (w : World) : (binOp .eql 44 (.slice a n c) (.slice none 0 0)).run Try.prog w = .ok (.bool a.isNone) w := Lib.run_eql_slice_nil w _ _ a n c 0 0 Try.underlying44

set_option maxRecDepth 20000 in
set_option maxHeartbeats 3200000 in
theorem law5_any (a : Option Addr) (n cap : Nat) (rs : Nat → Rep) (p : Int) (x nw : Rep) (w : World) (hl : n ≤ maxLen) (hcap : n ≤ cap) (hcm : cap ≤ maxLen) (ha : a = none → cap = 0) (hs : Sees w a n rs) (hx : x.ok) (hnw : nw.vlen ≤ maxLen) :
    Calls Try.prog 5 #[.slice a n cap, .int .i64 p, x.val, nw.rec_] w fun e w' => e = .returned (.bool true) ∧ Below w.heap.size w w' := by
  have HS := hide hs
  have HA := hide ha
  have HX := hide hx
  clear hs ha hx
  go_enter Try.func5, Try.ntmps5
  go_wp2_with fail
  have X0 := hide (XInv.start w x nw)
  refine (zz15_any a n cap rs p x nw _ hl (HS.out.below X0.out.bel) HX.out hnw).mono ?_
  rintro e w1 ⟨⟨b1, rfl, hb1⟩, hbel1⟩
  have X1 := hide (X0.out.below hbel1)
  cases b1
  · clear hbel1 hb1
    go_wp2
    go_ret
    exact ⟨rfl, X1.out.bel⟩
  have hn := hb1 rfl
  clear hbel1 hb1 X0
  go_wp2_with fail
  go_region_held3 (fun w' => w'.cell? ⟨w.heap.size, 0, none⟩ = some (.string x.id) ∧ w'.cell? ⟨w.heap.size, 1, none⟩ = some (.string x.addr) ∧ w'.cell? ⟨w.heap.size, 2, none⟩ = some (.int .i64 x.state) ∧ w'.cell? ⟨w.heap.size, 3, none⟩ = some (.bool x.retired) ∧ w'.cell? ⟨w.heap.size, 4, none⟩ = some (.int .u64 x.seq) ∧ w'.cell? ⟨w.heap.size, 5, none⟩ = some (.int .u64 x.vid) ∧ w'.cell? ⟨w.heap.size, 6, none⟩ = some (.bool x.deleted) ∧ w'.cell? ⟨w.heap.size, 7, none⟩ = some (.bool x.clean) ∧ w'.cell? ⟨w.heap.size, 8, none⟩ = some (.bool x.settled) ∧ w'.cell? ⟨w.heap.size, 9, none⟩ = some (.bool x.away) ∧ w'.cell? ⟨w.heap.size, 10, none⟩ = some (.bool x.short) ∧ w'.cell? ⟨w.heap.size, 11, none⟩ = some (.bool x.held) ∧ w'.cell? ⟨w.heap.size, 12, none⟩ = some (.int .u64 x.taken) ∧ w'.cell? ⟨w.heap.size, 13, none⟩ = some (.slice x.va x.vlen x.vcap) ∧ w'.cell? ⟨w.heap.size, 14, none⟩ = some (.bool x.failed) ∧ w'.cell? ⟨w.heap.size + 1, 0, none⟩ = some (.int .u64 nw.seq) ∧ w'.cell? ⟨w.heap.size + 1, 1, none⟩ = some (.int .u64 nw.vid) ∧ w'.cell? ⟨w.heap.size + 1, 2, none⟩ = some (.bool nw.deleted) ∧ w'.cell? ⟨w.heap.size + 1, 3, none⟩ = some (.bool nw.clean) ∧ w'.cell? ⟨w.heap.size + 1, 4, none⟩ = some (.bool nw.settled) ∧ w'.cell? ⟨w.heap.size + 1, 5, none⟩ = some (.bool nw.away) ∧ w'.cell? ⟨w.heap.size + 1, 6, none⟩ = some (.bool nw.short) ∧ w'.cell? ⟨w.heap.size + 1, 7, none⟩ = some (.bool nw.held) ∧ w'.cell? ⟨w.heap.size + 1, 8, none⟩ = some (.int .u64 nw.taken) ∧ w'.cell? ⟨w.heap.size + 1, 9, none⟩ = some (.slice nw.va nw.vlen nw.vcap)) (first | exact X4.out.cells | exact X3.out.cells | exact X2.out.cells | exact X1.out.cells)
    (first
      | (go_at_call 9; refine (addReplies_any a n cap rs _ hl (HS.out.below (by exact X1.out.bel.drew))).mono ?_; rintro e w2 ⟨⟨n2, h2, h2', rfl⟩, hb2⟩; have X2 := hide (X1.out.drew.below hb2); clear hb2)
      | (go_at_call 8; refine (addReply_any _ x _ (by omega) (by omega) HX.out).mono ?_; rintro e w3 ⟨⟨n3, h3, h3', rfl⟩, hb3⟩; have X3 := hide (X2.out.below hb3); clear hb3)
      | (go_at_call 16; refine (addRec_any _ nw _ (by omega) (by omega) hnw).mono ?_; rintro e w4 ⟨⟨n4, h4, h4', rfl⟩, hb4⟩; have X4 := hide (X3.out.below hb4); clear hb4))
  rename_i hheld
  clear hheld
  by_cases d1 : 1048576 < n4
  · go_wp2
    go_ret
    exact ⟨rfl, X4.out.bel⟩
  by_cases d2 : p < 0
  · go_wp2
    go_ret
    exact ⟨rfl, X4.out.bel⟩
  by_cases d3 : (n : Int) < p
  · go_wp2
    go_ret
    exact ⟨rfl, X4.out.bel⟩
  obtain ⟨q, hq⟩ : ∃ q : Nat, p = (q : Int) := ⟨p.toNat, by omega⟩
  subst hq
  have hqn : q ≤ n := by omega
  have hn' : n ≤ 16777216 := by omega
  have HCM := hide hcm
  obtain ⟨e0, e1, e2, e3, e4, e5, e6, e7, e8, e9⟩ := X4.out.bn.cells
  go_wp2_with fail
  refine (toRecord_any nw _).mono ?_
  rintro e w5 ⟨rfl, hb5⟩
  have X5 := hide ((X4.out.below hb5).below ((Below.refl _ _).alloc (Nat.le_refl _) (.cells nw.rec_.cells 42)))
  have N5 := hide (RBox.mk w5 nw)
  clear hb5 e0 e1 e2 e3 e4 e5 e6 e7 e8 e9 d1 h2 h2' h3 h3' h4 h4'
  clear X1 X2 X3 X4
  go_wp2_with fail
  obtain ⟨bN, hbN⟩ : ∃ b, w5.heap.size = b := ⟨_, rfl⟩
  rw [hbN] at N5 ⊢
  clear hbN
  go_cut [10, 11] (fun v4 v5 wc => XInv w wc x nw ∧ RBox wc bN nw ∧ ∃ base, Mems wc base v4 (pick (fun r => older r nw) (insAt rs q x) (n + 1)) ∧ Mems wc base v5 (unL (insAt rs q x) (n + 1) nw))
  case first =>
    as_aux_lemma =>
      go_region_held3 (fun w' => w'.cell? ⟨w.heap.size, 0, none⟩ = some (.string x.id) ∧ w'.cell? ⟨w.heap.size, 1, none⟩ = some (.string x.addr) ∧ w'.cell? ⟨w.heap.size, 2, none⟩ = some (.int .i64 x.state) ∧ w'.cell? ⟨w.heap.size, 3, none⟩ = some (.bool x.retired) ∧ w'.cell? ⟨w.heap.size, 4, none⟩ = some (.int .u64 x.seq) ∧ w'.cell? ⟨w.heap.size, 5, none⟩ = some (.int .u64 x.vid) ∧ w'.cell? ⟨w.heap.size, 6, none⟩ = some (.bool x.deleted) ∧ w'.cell? ⟨w.heap.size, 7, none⟩ = some (.bool x.clean) ∧ w'.cell? ⟨w.heap.size, 8, none⟩ = some (.bool x.settled) ∧ w'.cell? ⟨w.heap.size, 9, none⟩ = some (.bool x.away) ∧ w'.cell? ⟨w.heap.size, 10, none⟩ = some (.bool x.short) ∧ w'.cell? ⟨w.heap.size, 11, none⟩ = some (.bool x.held) ∧ w'.cell? ⟨w.heap.size, 12, none⟩ = some (.int .u64 x.taken) ∧ w'.cell? ⟨w.heap.size, 13, none⟩ = some (.slice x.va x.vlen x.vcap) ∧ w'.cell? ⟨w.heap.size, 14, none⟩ = some (.bool x.failed) ∧ w'.cell? ⟨bN, 0, none⟩ = some (.int .u64 nw.seq) ∧ w'.cell? ⟨bN, 1, none⟩ = some (.int .u64 nw.vid) ∧ w'.cell? ⟨bN, 2, none⟩ = some (.bool nw.deleted) ∧ w'.cell? ⟨bN, 3, none⟩ = some (.bool nw.clean) ∧ w'.cell? ⟨bN, 4, none⟩ = some (.bool nw.settled) ∧ w'.cell? ⟨bN, 5, none⟩ = some (.bool nw.away) ∧ w'.cell? ⟨bN, 6, none⟩ = some (.bool nw.short) ∧ w'.cell? ⟨bN, 7, none⟩ = some (.bool nw.held) ∧ w'.cell? ⟨bN, 8, none⟩ = some (.int .u64 nw.taken) ∧ w'.cell? ⟨bN, 9, none⟩ = some (.slice nw.va nw.vlen nw.vcap)) (first | exact X8.out.cellsN N8.out | exact X7.out.cellsN N7.out | exact X6.out.cellsN N6.out | exact X5.out.cellsN N5.out)
        (first
          | (go_at_call 11; refine (insertReply_any a n cap rs q x _ hn hqn hcap HCM.out HA.out (HS.out.below (by exact X5.out.bel.drew)) HX.out).mono ?_; rintro e w6 ⟨g, hg, rfl, hs6, hb6⟩; have X6 := hide (X5.out.drew.below hb6); have N6 := hide ((N5.out.below (Below.refl _ _).drew).below hb6); have S6 := hide hs6; clear hb6 hs6)
          | (go_at_call 19; refine (buildAnswers_any _ (n + 1) _ (insAt rs q x) _ (by omega) S6.out).mono ?_; rintro e w7 ⟨v, rfl, hv, hb7⟩; have X7 := hide (X6.out.below hb7); have N7 := hide (N6.out.below hb7); have V7 := hide hv; clear hb7 hv)
          | (go_at_call 18; refine (lagging_any _ (n + 1) (insAt rs q x) nw _ _ (by omega) V7.out).mono ?_; rintro e w8 ⟨v4, v5, rfl, hm4, hm5, hb8⟩; have X8 := hide (X7.out.below hb8); have N8 := hide (N7.out.below hb8); have M4 := hide hm4; have M5 := hide hm5; clear hb8 hm4 hm5))
      go_wp2_with fail
      go_meet
      case rel => exact ⟨X8.out, N8.out, _, M4.out, M5.out⟩
  case rest =>
    obtain ⟨hx8, hn8, base8, hm4, hm5⟩ := hcut
    have X8 := hide hx8
    have N8 := hide hn8
    have M4 := hide hm4
    have M5 := hide hm5
    clear hx8 hn8 hm4 hm5 X5 N5
    unfold maxLen at hl hcm
    have S8 := hide (HS.out.below X8.out.bel)
    have hqc : (q : Int) ≤ (cap : Int) := by omega
    have hqz : (0 : Int) ≤ (q : Int) := by omega
    go_upto_region 9 with fail
    go_cut [12, 13] (fun b1 u1 wd => XInv w wd x nw ∧ RBox wd bN nw ∧ Below wc.heap.size wc wd ∧ ∃ base, Mems wd base b1 (pick (fun r => older r nw) rs q) ∧ Mems wd base u1 (unL rs q nw))
    case first =>
      as_aux_lemma =>
        go_region_held3 (fun w' => w'.cell? ⟨bN, 0, none⟩ = some (.int .u64 nw.seq) ∧ w'.cell? ⟨bN, 1, none⟩ = some (.int .u64 nw.vid) ∧ w'.cell? ⟨bN, 2, none⟩ = some (.bool nw.deleted) ∧ w'.cell? ⟨bN, 3, none⟩ = some (.bool nw.clean) ∧ w'.cell? ⟨bN, 4, none⟩ = some (.bool nw.settled) ∧ w'.cell? ⟨bN, 5, none⟩ = some (.bool nw.away) ∧ w'.cell? ⟨bN, 6, none⟩ = some (.bool nw.short) ∧ w'.cell? ⟨bN, 7, none⟩ = some (.bool nw.held) ∧ w'.cell? ⟨bN, 8, none⟩ = some (.int .u64 nw.taken) ∧ w'.cell? ⟨bN, 9, none⟩ = some (.slice nw.va nw.vlen nw.vcap)) (first | exact N10.out.cells | exact N9.out.cells | exact N8.out.cells)
          (first
            | (go_at_call 19; refine (buildAnswers_any a q cap rs _ (by omega) (sees_take (S8.out.below (by exact (Below.refl _ _).drew)) hqn)).mono ?_; rintro e w9 ⟨v, rfl, hv, hb9⟩; have B9 := hide ((Below.refl _ _).drew.trans hb9); have N9 := hide ((N8.out.below (Below.refl _ _).drew).below hb9); have V9 := hide hv; clear hb9 hv)
            | (go_at_call 18; refine (lagging_any _ q rs nw _ _ (by omega) V9.out).mono ?_; rintro e w10 ⟨v4, v5, rfl, hm4, hm5, hb10⟩; have B10 := hide (B9.out.trans (hb10.mono B9.out.size)); have N10 := hide (N9.out.below hb10); have M6 := hide hm4; have M7 := hide hm5; clear hb10 hm4 hm5))
        go_wp2_with fail
        go_meet
        case rel => exact ⟨X8.out.below B10.out, N10.out, B10.out, _, M6.out, M7.out⟩
    case rest =>
      obtain ⟨hx10, hn10, hb10, base10, hm6, hm7⟩ := hcut
      have X10 := hide hx10
      have N10 := hide hn10
      have M4' := hide (M4.out.below hb10)
      have M5' := hide (M5.out.below hb10)
      have M6 := hide hm6
      have M7 := hide hm7
      clear hx10 hn10 hb10 hm6 hm7 X8 N8 M4 M5 S8
      have S10 := hide (HS.out.below X10.out.bel)
      go_upto_region 10 with fail
      go_cut [14, 15] (fun b2 u2 wd => XInv w wd x nw ∧ RBox wd bN nw ∧ Below wc.heap.size wc wd ∧ ∃ base, Mems wd base b2 (pick (fun r => older r nw) (fun i => rs (q + i)) (n - q)) ∧ Mems wd base u2 (unL (fun i => rs (q + i)) (n - q) nw))
      case first =>
        as_aux_lemma =>
          by_cases hcq : cap = q
          · subst hcq
            have hq0 : n - cap = 0 := by omega
            go_region_held3 (fun w' => w'.cell? ⟨bN, 0, none⟩ = some (.int .u64 nw.seq) ∧ w'.cell? ⟨bN, 1, none⟩ = some (.int .u64 nw.vid) ∧ w'.cell? ⟨bN, 2, none⟩ = some (.bool nw.deleted) ∧ w'.cell? ⟨bN, 3, none⟩ = some (.bool nw.clean) ∧ w'.cell? ⟨bN, 4, none⟩ = some (.bool nw.settled) ∧ w'.cell? ⟨bN, 5, none⟩ = some (.bool nw.away) ∧ w'.cell? ⟨bN, 6, none⟩ = some (.bool nw.short) ∧ w'.cell? ⟨bN, 7, none⟩ = some (.bool nw.held) ∧ w'.cell? ⟨bN, 8, none⟩ = some (.int .u64 nw.taken) ∧ w'.cell? ⟨bN, 9, none⟩ = some (.slice nw.va nw.vlen nw.vcap)) (first | exact N12.out.cells | exact N11.out.cells | exact N10.out.cells)
              (first
              | (go_at_call 19; refine (buildAnswers_any a 0 0 (fun i => rs (cap + i)) _ (by omega) (sees_empty _ _ _)).mono ?_; rintro e w11 ⟨v, rfl, hv, hb11⟩; have B11 := hide ((Below.refl _ _).drew.trans hb11); have N11 := hide ((N10.out.below (Below.refl _ _).drew).below hb11); have V11 := hide hv; clear hb11 hv)
              | (go_at_call 18; refine (lagging_any _ 0 (fun i => rs (cap + i)) nw _ _ (by omega) V11.out).mono ?_; rintro e w12 ⟨v4, v5, rfl, hm8, hm9, hb12⟩; have B12 := hide (B11.out.trans (hb12.mono B11.out.size)); have N12 := hide (N11.out.below hb12); have M8 := hide hm8; have M9 := hide hm9; clear hb12 hm8 hm9))
            go_wp2_with fail
            go_meet
            case rel =>
              rw [hq0]
              exact ⟨X10.out.below B12.out, N12.out, B12.out, _, M8.out, M9.out⟩
          · go_region_held3 (fun w' => w'.cell? ⟨bN, 0, none⟩ = some (.int .u64 nw.seq) ∧ w'.cell? ⟨bN, 1, none⟩ = some (.int .u64 nw.vid) ∧ w'.cell? ⟨bN, 2, none⟩ = some (.bool nw.deleted) ∧ w'.cell? ⟨bN, 3, none⟩ = some (.bool nw.clean) ∧ w'.cell? ⟨bN, 4, none⟩ = some (.bool nw.settled) ∧ w'.cell? ⟨bN, 5, none⟩ = some (.bool nw.away) ∧ w'.cell? ⟨bN, 6, none⟩ = some (.bool nw.short) ∧ w'.cell? ⟨bN, 7, none⟩ = some (.bool nw.held) ∧ w'.cell? ⟨bN, 8, none⟩ = some (.int .u64 nw.taken) ∧ w'.cell? ⟨bN, 9, none⟩ = some (.slice nw.va nw.vlen nw.vcap)) (first | exact N12.out.cells | exact N11.out.cells | exact N10.out.cells)
              (first
              | (go_at_call 19; refine (buildAnswers_any _ (n - q) (cap - q) (fun i => rs (q + i)) _ (by omega) (sees_drop (S10.out.below (by exact (Below.refl _ _).drew)) hqn)).mono ?_; rintro e w11 ⟨v, rfl, hv, hb11⟩; have B11 := hide ((Below.refl _ _).drew.trans hb11); have N11 := hide ((N10.out.below (Below.refl _ _).drew).below hb11); have V11 := hide hv; clear hb11 hv)
              | (go_at_call 18; refine (lagging_any _ (n - q) (fun i => rs (q + i)) nw _ _ (by omega) V11.out).mono ?_; rintro e w12 ⟨v4, v5, rfl, hm8, hm9, hb12⟩; have B12 := hide (B11.out.trans (hb12.mono B11.out.size)); have N12 := hide (N11.out.below hb12); have M8 := hide hm8; have M9 := hide hm9; clear hb12 hm8 hm9))
            go_wp2_with fail
            go_meet
            case rel => exact ⟨X10.out.below B12.out, N12.out, B12.out, _, M8.out, M9.out⟩
      case rest =>
        obtain ⟨hx12, hn12, hb12, base12, hm8, hm9⟩ := hcut
        have X12 := hide hx12
        have R4 := hide (M4'.out.below hb12)
        have R5 := hide (M5'.out.below hb12)
        have R6 := hide (M6.out.below hb12)
        have R7 := hide (M7.out.below hb12)
        have R8 := hide hm8
        have R9 := hide hm9
        clear hx12 hn12 hb12 hm8 hm9 X10 N10 M4' M5' M6 M7 S10
        go_upto_region 12 with fail
        go_cut [78] (fun t wd => t = .bool (!x.failed && older x nw) ∧ XInv w wd x nw ∧ Below wc.heap.size wc wd)
        case first =>
          as_aux_lemma =>
            obtain ⟨c0, c1, c2, c3, c4, c5, c6, c7, c8, c9, c10, c11, c12, c13, c14⟩ := X12.out.bx.cells
            obtain ⟨e0, e1, e2, e3, e4, e5, e6, e7, e8, e9⟩ := X12.out.bn.cells
            cases hf : x.failed
            · rw [hf] at c14
              have HF := hide hf
              clear hf
              go_wp2_with fail
              refine (olderThan_any x nw _).mono ?_
              rintro e w13 ⟨rfl, hb13⟩
              have B13 := hide hb13
              clear hb13 c0 c1 c2 c3 c4 c5 c6 c7 c8 c9 c10 c11 c12 c13 c14 e0 e1 e2 e3 e4 e5 e6 e7 e8 e9
              go_wp2
              go_meet
              case rel => exact ⟨by rw [HF.out]; rfl, X12.out.below B13.out, B13.out⟩
            · rw [hf] at c14
              have HF := hide hf
              clear hf
              go_wp2
              go_meet
              case rel => exact ⟨by rw [HF.out]; rfl, X12.out, Below.refl _ _⟩
        case rest =>
          obtain ⟨ht, hx13, hb13⟩ := hcut
          subst ht
          obtain ⟨T1, hT1⟩ : ∃ T, (!x.failed && older x nw) = T := ⟨_, rfl⟩
          rw [hT1]
          have HT1 := hide hT1
          have X13 := hide hx13
          have P4 := hide (R4.out.below hb13)
          have P5 := hide (R5.out.below hb13)
          have P6 := hide (R6.out.below hb13)
          have P7 := hide (R7.out.below hb13)
          have P8 := hide (R8.out.below hb13)
          have P9 := hide (R9.out.below hb13)
          clear hx13 hb13 hT1 X12 R4 R5 R6 R7 R8 R9
          obtain ⟨i55, hi55, hz55, hsz55, hby55⟩ := info_parts info55
          go_upto_if 78 with fail
          go_cut [16] (fun m wd => XInv w wd x nw ∧ Below wc.heap.size wc wd ∧ ∃ base, Mems wd base m (midL T1 x))
          case first =>
            as_aux_lemma =>
              obtain ⟨c0, c1, c2, c3, c4, c5, c6, c7, c8, c9, c10, c11, c12, c13, c14⟩ := X13.out.bx.cells
              cases hT : T1
              · go_wp2
                go_meet
                case rel => exact ⟨X13.out, Below.refl _ _, 0, by rw [hT]; exact Mems.empty _ _⟩
              · go_wp2_with fail
                refine (toMember_any x _).mono ?_
                rintro e wm ⟨rfl, hbm⟩
                have BM := hide hbm
                clear hbm c0 c1 c2 c3 c4 c5 c6 c7 c8 c9 c10 c11 c12 c13 c14
                have HNIL := hide (World.ownsRow_nil (wm.alloc (.cells #[.string x.id, .string x.addr, .int .i64 x.state, .bool x.retired] 55)) (wm.heap.size + 1) 55 4)
                go_wp2_with (at_builtin; refine wpList_append_own_at _ rfl _ _ 44 rfl (wm.heap.size + 1) 55 i55 _ 4 48 Try.underlying44 hi55 hz55 hsz55 hby55 zero55 (by omega) (.slice none 0 0) 0 [] rfl HNIL.out ⟨wm.heap.size, 0, none⟩ 1 1 (memL x) rfl rfl (mem_box wm x) (memL_oneCell x) ?h1 ?h2 ?h3 ?_)
                case h1 => unfold maxLen; omega
                case h2 => omega
                case h3 => simp
                intro v' wn hown hgr _ _
                have BN : Hid (Below wc.heap.size wc wn) := (BM.out.alloc BM.out.size _).grown hgr (by have := BM.out.size; simp; omega) (fun k e => by cases e)
                have MN : Hid (Mems wn (wm.heap.size + 1) v' [x]) := ⟨by rw [memCells_one]; simpa using hown, fun e => by cases e⟩
                clear hown hgr
                go_wp2_with fail
                go_meet
                case rel => exact ⟨X13.out.below BN.out, BN.out, _, by rw [hT]; exact MN.out⟩
          case rest =>
            obtain ⟨hx14, hb14, base14, hm10⟩ := hcut
            have X14 := hide hx14
            have Q4 := hide (P4.out.below hb14)
            have Q5 := hide (P5.out.below hb14)
            have Q6 := hide (P6.out.below hb14)
            have Q7 := hide (P7.out.below hb14)
            have Q8 := hide (P8.out.below hb14)
            have Q9 := hide (P9.out.below hb14)
            have Q10 := hide hm10
            clear hx14 hb14 hm10 X13 P4 P5 P6 P7 P8 P9
            go_upto_region 14 with fail
            go_cut [99] (fun t wd => t = .bool (!x.failed && unmk x nw) ∧ XInv w wd x nw ∧ Below wc.heap.size wc wd)
            case first =>
              as_aux_lemma =>
                obtain ⟨c0, c1, c2, c3, c4, c5, c6, c7, c8, c9, c10, c11, c12, c13, c14⟩ := X14.out.bx.cells
                obtain ⟨e0, e1, e2, e3, e4, e5, e6, e7, e8, e9⟩ := X14.out.bn.cells
                cases hf : x.failed
                · rw [hf] at c14
                  have HF := hide hf
                  clear hf
                  go_wp2_with fail
                  refine (sameVersion_any x nw _).mono ?_
                  rintro e w15 ⟨rfl, hb15⟩
                  have B15 := hide hb15
                  have X15 := hide (X14.out.below hb15)
                  clear hb15 c0 c1 c2 c3 c4 c5 c6 c7 c8 c9 c10 c11 c12 c13 c14 e0 e1 e2 e3 e4 e5 e6 e7 e8 e9
                  obtain ⟨c0, c1, c2, c3, c4, c5, c6, c7, c8, c9, c10, c11, c12, c13, c14⟩ := X15.out.bx.cells
                  cases hsv : (x.seq == nw.seq && x.vid == nw.vid)
                  · have HSV := hide hsv
                    clear hsv
                    go_wp2
                    go_meet
                    case rel => exact ⟨by rw [HF.out]; unfold unmk; rw [HSV.out]; rfl, X15.out, B15.out⟩
                  · have HSV := hide hsv
                    clear hsv
                    go_wp2
                    go_meet
                    case rel => exact ⟨by rw [HF.out]; unfold unmk; rw [HSV.out]; rfl, X15.out, B15.out⟩
                · rw [hf] at c14
                  have HF := hide hf
                  clear hf
                  go_wp2
                  go_meet
                  case rel => exact ⟨by rw [HF.out]; rfl, X14.out, Below.refl _ _⟩
            case rest =>
              obtain ⟨ht, hx16, hb16⟩ := hcut
              subst ht
              obtain ⟨T2, hT2⟩ : ∃ T, (!x.failed && unmk x nw) = T := ⟨_, rfl⟩
              rw [hT2]
              have HT2 := hide hT2
              have X16 := hide hx16
              have P4 := hide (Q4.out.below hb16)
              have P5 := hide (Q5.out.below hb16)
              have P6 := hide (Q6.out.below hb16)
              have P7 := hide (Q7.out.below hb16)
              have P8 := hide (Q8.out.below hb16)
              have P9 := hide (Q9.out.below hb16)
              have P10 := hide (Q10.out.below hb16)
              clear hx16 hb16 hT2 X14 Q4 Q5 Q6 Q7 Q8 Q9 Q10
              go_upto_if 99 with fail
              go_cut [17] (fun m wd => XInv w wd x nw ∧ Below wc.heap.size wc wd ∧ ∃ base, Mems wd base m (midL T2 x))
              case first =>
                as_aux_lemma =>
                  obtain ⟨c0, c1, c2, c3, c4, c5, c6, c7, c8, c9, c10, c11, c12, c13, c14⟩ := X16.out.bx.cells
                  cases hT : T2
                  · go_wp2
                    go_meet
                    case rel => exact ⟨X16.out, Below.refl _ _, 0, by rw [hT]; exact Mems.empty _ _⟩
                  · go_wp2_with fail
                    refine (toMember_any x _).mono ?_
                    rintro e wm ⟨rfl, hbm⟩
                    have BM := hide hbm
                    clear hbm c0 c1 c2 c3 c4 c5 c6 c7 c8 c9 c10 c11 c12 c13 c14
                    have HNIL := hide (World.ownsRow_nil (wm.alloc (.cells #[.string x.id, .string x.addr, .int .i64 x.state, .bool x.retired] 55)) (wm.heap.size + 1) 55 4)
                    go_wp2_with (at_builtin; refine wpList_append_own_at _ rfl _ _ 44 rfl (wm.heap.size + 1) 55 i55 _ 4 48 Try.underlying44 hi55 hz55 hsz55 hby55 zero55 (by omega) (.slice none 0 0) 0 [] rfl HNIL.out ⟨wm.heap.size, 0, none⟩ 1 1 (memL x) rfl rfl (mem_box wm x) (memL_oneCell x) ?h1 ?h2 ?h3 ?_)
                    case h1 => unfold maxLen; omega
                    case h2 => omega
                    case h3 => simp
                    intro v' wn hown hgr _ _
                    have BN : Hid (Below wc.heap.size wc wn) := (BM.out.alloc BM.out.size _).grown hgr (by have := BM.out.size; simp; omega) (fun k e => by cases e)
                    have MN : Hid (Mems wn (wm.heap.size + 1) v' [x]) := ⟨by rw [memCells_one]; simpa using hown, fun e => by cases e⟩
                    clear hown hgr
                    go_wp2_with fail
                    go_meet
                    case rel => exact ⟨X16.out.below BN.out, BN.out, _, by rw [hT]; exact MN.out⟩
              case rest =>
                obtain ⟨hx17, hb17, base17, hm11⟩ := hcut
                have X17 := hide hx17
                have Q4 := hide (P4.out.below hb17)
                have Q5 := hide (P5.out.below hb17)
                have Q6 := hide (P6.out.below hb17)
                have Q7 := hide (P7.out.below hb17)
                have Q8 := hide (P8.out.below hb17)
                have Q9 := hide (P9.out.below hb17)
                have Q10 := hide (P10.out.below hb17)
                have Q11 := hide hm11
                clear hx17 hb17 hm11 X16 P4 P5 P6 P7 P8 P9 P10
                have HLB := hide (pick_ins (fun r => older r nw) rs q n x hqn)
                rw [HT1.out] at HLB
                have HLU := hide (pick_ins (fun r => unmk r nw) rs q n x hqn)
                rw [HT2.out] at HLU
                have hlb := pick_length (fun r => older r nw) (insAt rs q x) (n + 1)
                have hl1 := pick_length (fun r => older r nw) rs q
                have hl2 := pick_length (fun r => older r nw) (fun i => rs (q + i)) (n - q)
                have hmid : ∀ b, (midL b x).length ≤ 1 := fun b => by unfold midL; split <;> simp
                have HMID := hide hmid
                have HL1 := hide hl1
                have HL2 := hide hl2
                have HLL := hide hlb
                clear hmid hlb hl1 hl2
                have hnil := eql44
                go_upto_region 16 with fail
                go_cut [18] (fun h wd => h = .bool true ∧ XInv w wd x nw ∧ Below wc.heap.size wc wd)
                case first =>
                  as_aux_lemma =>
                    have K4 := hide Q4.out.shape
                    obtain ⟨a10, c10, t10, hv10, hA10, hB10⟩ := Q4.out.isNil
                    obtain ⟨a11, c11, t11, hv11, hA11, hB11⟩ := Q5.out.isNil
                    have HV10 := hide hv10
                    have HV11 := hide hv11
                    clear hv10 hv11
                    go_wp2_with fail
                    refine (joinMembers_any u12 u16 u14 _ _ _ _ (by have := HL1.out; omega) (by have := HMID.out T1; omega) (by have := HL2.out; omega) Q6.out.shape Q10.out.shape Q8.out.shape).mono ?_
                    rintro e w18 ⟨vj, rfl, hj, hb18⟩
                    rw [← HLB.out] at hj
                    have J := hide hj
                    have B18 := hide hb18
                    clear hj hb18
                    go_wp2_with fail
                    refine (sameMembers_any u10 vj _ _ (by have := HLL.out; omega) (K4.out.below B18.out) J.out).mono ?_
                    rintro e w19 ⟨rfl, hb19⟩
                    have B19 := hide (B18.out.trans (hb19.mono B18.out.size))
                    clear hb19
                    generalize hLB : (pick (fun r => older r nw) (insAt rs q x) (n + 1)).length = LB at HV10 hB10
                    generalize hLU : (unL (insAt rs q x) (n + 1) nw).length = LU at HV11 hB11
                    clear hLB hLU
                    obtain rfl := HV10.out
                    obtain rfl := HV11.out
                    go_wp2
                    go_meet
                    case rel => exact ⟨by simp, X17.out.below B19.out, B19.out⟩
                case rest =>
                  obtain ⟨rfl, hx20, hb20⟩ := hcut
                  have X20 := hide hx20
                  have Q5' := hide (Q5.out.below hb20)
                  have Q7' := hide (Q7.out.below hb20)
                  have Q9' := hide (Q9.out.below hb20)
                  have Q11' := hide (Q11.out.below hb20)
                  clear hx20 hb20 X17 Q4 Q5 Q6 Q7 Q8 Q9 Q10 Q11
                  have c14 : wc.cell? ⟨w.heap.size, 14, none⟩ = some (.bool x.failed) := X20.out.bx.2 14 (by omega)
                  cases hf : x.failed
                  · rw [hf] at c14
                    have HF := hide hf
                    clear hf
                    go_wp2_with fail
                    refine (anyFailed_any a n cap rs _ hn' (HS.out.below X20.out.bel)).mono ?_
                    rintro e w21 ⟨rfl, hw21⟩
                    subst hw21
                    clear c14
                    cases hany : anyB (fun i => (rs i).failed) n
                    · have HANY := hide hany
                      clear hany
                      have e1 : unL (insAt rs q x) (n + 1) nw = pick (fun r => unmk r nw) (insAt rs q x) (n + 1) := unL_no (by rw [anyB_ins rs q n x hqn, HF.out, HANY.out]; rfl)
                      have e2 : unL rs q nw = pick (fun r => unmk r nw) rs q := unL_no (anyB_no fun i hi => anyB_get HANY.out (by omega))
                      have e3 : unL (fun i => rs (q + i)) (n - q) nw = pick (fun r => unmk r nw) (fun i => rs (q + i)) (n - q) := unL_no (anyB_no fun i hi => anyB_get (fs := fun i => (rs i).failed) HANY.out (by omega))
                      rw [e1] at Q5'
                      rw [e2] at Q7'
                      rw [e3] at Q9'
                      clear e1 e2 e3
                      have k1 := pick_length (fun r => unmk r nw) (insAt rs q x) (n + 1)
                      have k2 := pick_length (fun r => unmk r nw) rs q
                      have k3 := pick_length (fun r => unmk r nw) (fun i => rs (q + i)) (n - q)
                      have K1 := hide k1
                      have K2 := hide k2
                      have K3 := hide k3
                      clear k1 k2 k3
                      go_wp2_with fail
                      refine (joinMembers_any u13 u17 u15 _ _ _ _ (by have := K2.out; omega) (by have := HMID.out T2; omega) (by have := K3.out; omega) Q7'.out.shape Q11'.out.shape Q9'.out.shape).mono ?_
                      rintro e w22 ⟨vj, rfl, hj, hb22⟩
                      rw [← HLU.out] at hj
                      have J := hide hj
                      have B22 := hide hb22
                      clear hj hb22
                      go_wp2_with fail
                      refine (sameMembers_any u11 vj _ _ (by have := K1.out; omega) (Q5'.out.shape.below B22.out) J.out).mono ?_
                      rintro e w23 ⟨rfl, hb23⟩
                      have B23 := hide (B22.out.trans (hb23.mono B22.out.size))
                      clear hb23
                      go_wp2
                      go_ret
                      exact ⟨rfl, (X20.out.below B23.out).bel⟩
                    · have hun := Q5'.out.nil (unL_yes (by rw [anyB_ins rs q n x hqn, hany]; simp))
                      subst hun
                      clear hany
                      go_wp2
                      go_ret
                      exact ⟨rfl, X20.out.bel⟩
                  · have hun := Q5'.out.nil (unL_yes (by rw [anyB_ins rs q n x hqn, hf]; rfl))
                    subst hun
                    rw [hf] at c14
                    have HF := hide hf
                    clear hf
                    go_wp2
                    go_ret
                    exact ⟨rfl, X20.out.bel⟩
end Go.Proofs.Qxb6614952a
