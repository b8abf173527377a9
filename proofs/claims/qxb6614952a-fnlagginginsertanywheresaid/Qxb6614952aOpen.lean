import Derived.Test.Qxb6614952aRep
import Derived.ProofKit
import Derived.OpenShut
import Derived.ShutString
import Derived.ChangeOld
import Derived.Deep.Slices
import Derived.Below
namespace Go.Proofs.Qxb6614952a
open Go.ChangeShapes Go.WideShapes Go.ChangeAt Go.RowKit Go.Deep
open Go.ChangeMaps (open_string shut_string)

theorem own : ownKnob Try.prog.godebug = none := by kernel_rfl
theorem laidOut : laidOutB Try.prog = true := by kernel_rfl
theorem cells22 : Try.prog.cellsOf 22 = 1 := by kernel_rfl
theorem cells28 : Try.prog.cellsOf 28 = 15 := by kernel_rfl
theorem cells9 : Try.prog.cellsOf 9 = 1 := by kernel_rfl
theorem cells3 : Try.prog.cellsOf 3 = 1 := by kernel_rfl
theorem cells4 : Try.prog.cellsOf 4 = 1 := by kernel_rfl
theorem cells26 : Try.prog.cellsOf 26 = 10 := by kernel_rfl
theorem cells23 : Try.prog.cellsOf 23 = 1 := by kernel_rfl
theorem cells24 : Try.prog.cellsOf 24 = 1 := by kernel_rfl

theorem list10 {l : List Value} (h : l.length = 10) : ∃ c0 c1 c2 c3 c4 c5 c6 c7 c8 c9, l = [c0, c1, c2, c3, c4, c5, c6, c7, c8, c9] := by
  match l, h with
  | [c0, c1, c2, c3, c4, c5, c6, c7, c8, c9], _ => exact ⟨c0, c1, c2, c3, c4, c5, c6, c7, c8, c9, rfl⟩
theorem list15 {l : List Value} (h : l.length = 15) : ∃ c0 c1 c2 c3 c4 c5 c6 c7 c8 c9 c10 c11 c12 c13 c14, l = [c0, c1, c2, c3, c4, c5, c6, c7, c8, c9, c10, c11, c12, c13, c14] := by
  match l, h with
  | [c0, c1, c2, c3, c4, c5, c6, c7, c8, c9, c10, c11, c12, c13, c14], _ => exact ⟨c0, c1, c2, c3, c4, c5, c6, c7, c8, c9, c10, c11, c12, c13, c14, rfl⟩

section
variable {H : Type} {enc : TypeId × Value → H} {w : World} {base : Nat} {spare : Nat → Bool} {held : Bool}

theorem one_slice {t e : TypeId} {fuel : Nat} {c : Value} {x : DataW H × List MemPlace} (ht : Try.prog.underlying t = some (.slice e)) (h : DataW.trod enc Try.prog w base spare held fuel t [c] = some x) : ∃ a len cap, c = .slice a len cap ∧ len ≤ maxLen := by
  rcases DataW.trod_slice ht h with ⟨h0, _⟩ | ⟨a, len, cap, elems, rest, n, _, h0, _, _, hl, hm, _⟩
  · exact ⟨none, 0, 0, by simpa using h0, Nat.zero_le _⟩
  · exact ⟨some a, len, cap, by simpa using h0, Nat.le_trans hl hm⟩

/-- A Rec, opened. -/
theorem rec_of_trod {fuel : Nat} {cs : List Value} {x : DataW H × List MemPlace} (h : DataW.trod enc Try.prog w base spare held fuel 26 cs = some x) :
    ∃ (seq vid : Int) (deleted clean settled away short held : Bool) (taken : Int) (va : Option Addr) (vlen vcap : Nat), cs = [.int .u64 seq, .int .u64 vid, .bool deleted, .bool clean, .bool settled, .bool away, .bool short, .bool held, .int .u64 taken, .slice va vlen vcap] ∧ vlen ≤ maxLen := by
  obtain ⟨xs, n, _, _, hl, hxl, hf⟩ := DataW.trod_struct Try.underlying26 h
  rw [cells26] at hl
  obtain ⟨c0, c1, c2, c3, c4, c5, c6, c7, c8, c9, rfl⟩ := list10 hl
  have hx : xs.length = 10 := hxl
  have f0 := hf 0 ⟨"Seq", 23, 0, false, "", "", 0⟩ rfl
  rw [List.getElem?_eq_getElem (show 0 < xs.length by omega)] at f0
  have f1 := hf 1 ⟨"VID", 23, 1, false, "", "", 8⟩ rfl
  rw [List.getElem?_eq_getElem (show 1 < xs.length by omega)] at f1
  have f2 := hf 2 ⟨"Deleted", 4, 2, false, "", "", 16⟩ rfl
  rw [List.getElem?_eq_getElem (show 2 < xs.length by omega)] at f2
  have f3 := hf 3 ⟨"Clean", 4, 3, false, "", "", 17⟩ rfl
  rw [List.getElem?_eq_getElem (show 3 < xs.length by omega)] at f3
  have f4 := hf 4 ⟨"Settled", 4, 4, false, "", "", 18⟩ rfl
  rw [List.getElem?_eq_getElem (show 4 < xs.length by omega)] at f4
  have f5 := hf 5 ⟨"Away", 4, 5, false, "", "", 19⟩ rfl
  rw [List.getElem?_eq_getElem (show 5 < xs.length by omega)] at f5
  have f6 := hf 6 ⟨"Short", 4, 6, false, "", "", 20⟩ rfl
  rw [List.getElem?_eq_getElem (show 6 < xs.length by omega)] at f6
  have f7 := hf 7 ⟨"Held", 4, 7, false, "", "", 21⟩ rfl
  rw [List.getElem?_eq_getElem (show 7 < xs.length by omega)] at f7
  have f8 := hf 8 ⟨"Taken", 23, 8, false, "", "", 24⟩ rfl
  rw [List.getElem?_eq_getElem (show 8 < xs.length by omega)] at f8
  have f9 := hf 9 ⟨"Value", 24, 9, false, "", "", 32⟩ rfl
  rw [List.getElem?_eq_getElem (show 9 < xs.length by omega)] at f9
  obtain ⟨v0, e0, _, _⟩ := DataW.trod_int Try.underlying23 f0
  simp only [cells23, List.drop, List.take, List.cons.injEq, and_true] at e0
  obtain ⟨v1, e1, _, _⟩ := DataW.trod_int Try.underlying23 f1
  simp only [cells23, List.drop, List.take, List.cons.injEq, and_true] at e1
  obtain ⟨v2, e2, _⟩ := DataW.trod_bool Try.underlying4 f2
  simp only [cells4, List.drop, List.take, List.cons.injEq, and_true] at e2
  obtain ⟨v3, e3, _⟩ := DataW.trod_bool Try.underlying4 f3
  simp only [cells4, List.drop, List.take, List.cons.injEq, and_true] at e3
  obtain ⟨v4, e4, _⟩ := DataW.trod_bool Try.underlying4 f4
  simp only [cells4, List.drop, List.take, List.cons.injEq, and_true] at e4
  obtain ⟨v5, e5, _⟩ := DataW.trod_bool Try.underlying4 f5
  simp only [cells4, List.drop, List.take, List.cons.injEq, and_true] at e5
  obtain ⟨v6, e6, _⟩ := DataW.trod_bool Try.underlying4 f6
  simp only [cells4, List.drop, List.take, List.cons.injEq, and_true] at e6
  obtain ⟨v7, e7, _⟩ := DataW.trod_bool Try.underlying4 f7
  simp only [cells4, List.drop, List.take, List.cons.injEq, and_true] at e7
  obtain ⟨v8, e8, _, _⟩ := DataW.trod_int Try.underlying23 f8
  simp only [cells23, List.drop, List.take, List.cons.injEq, and_true] at e8
  simp only [cells24, List.drop, List.take] at f9
  obtain ⟨va, vl, vc, e9, hvl⟩ := one_slice Try.underlying24 f9
  exact ⟨v0, v1, v2, v3, v4, v5, v6, v7, v8, va, vl, vc, by rw [e0, e1, e2, e3, e4, e5, e6, e7, e8, e9], hvl⟩

/-- A Reply, opened. -/
theorem rep_of_trod {fuel : Nat} {cs : List Value} {x : DataW H × List MemPlace} (h : DataW.trod enc Try.prog w base spare held fuel 28 cs = some x) :
    ∃ r : Rep, r.ok ∧ cs = (List.range 15).map r.cell ∧ cs = r.val.cells.toList := by
  obtain ⟨xs, n, _, _, hl, hxl, hf⟩ := DataW.trod_struct Try.underlying28 h
  rw [cells28] at hl
  obtain ⟨c0, c1, c2, c3, c4, c5, c6, c7, c8, c9, c10, c11, c12, c13, c14, rfl⟩ := list15 hl
  have hx : xs.length = 6 := hxl
  have f0 := hf 0 ⟨"ID", 9, 0, false, "", "", 0⟩ rfl
  rw [List.getElem?_eq_getElem (show 0 < xs.length by omega)] at f0
  have f1 := hf 1 ⟨"Addr", 9, 1, false, "", "", 16⟩ rfl
  rw [List.getElem?_eq_getElem (show 1 < xs.length by omega)] at f1
  have f2 := hf 2 ⟨"State", 3, 2, false, "", "", 32⟩ rfl
  rw [List.getElem?_eq_getElem (show 2 < xs.length by omega)] at f2
  have f3 := hf 3 ⟨"Retired", 4, 3, false, "", "", 40⟩ rfl
  rw [List.getElem?_eq_getElem (show 3 < xs.length by omega)] at f3
  have f4 := hf 4 ⟨"Rec", 26, 4, false, "", "", 48⟩ rfl
  rw [List.getElem?_eq_getElem (show 4 < xs.length by omega)] at f4
  have f5 := hf 5 ⟨"Failed", 4, 14, false, "", "", 104⟩ rfl
  rw [List.getElem?_eq_getElem (show 5 < xs.length by omega)] at f5
  obtain ⟨v0, e0, _, h0⟩ := DataW.trod_string Try.underlying9 f0
  obtain ⟨v1, e1, _, h1⟩ := DataW.trod_string Try.underlying9 f1
  obtain ⟨v2, e2, _, _⟩ := DataW.trod_int Try.underlying3 f2
  obtain ⟨v3, e3, _⟩ := DataW.trod_bool Try.underlying4 f3
  obtain ⟨seq, vid, deleted, clean, settled, away, short, held', taken, va, vlen, vcap, e4, hv⟩ := rec_of_trod f4
  obtain ⟨v5, e5, _⟩ := DataW.trod_bool Try.underlying4 f5
  simp only [cells9, cells3, cells4, cells26, List.drop, List.take, List.cons.injEq, and_true] at e0 e1 e2 e3 e4 e5
  obtain ⟨g0, g1, g2, g3, g4, g5, g6, g7, g8, g9⟩ := e4
  refine ⟨⟨v0, v1, v2, v3, seq, vid, deleted, clean, settled, away, short, held', taken, va, vlen, vcap, v5⟩, ⟨h0, h1, hv⟩, ?_, ?_⟩
  · rw [e0, e1, e2, e3, g0, g1, g2, g3, g4, g5, g6, g7, g8, g9, e5]; rfl
  · rw [e0, e1, e2, e3, g0, g1, g2, g3, g4, g5, g6, g7, g8, g9, e5]; rfl

/-- A slice of Replies, opened. -/
theorem reps_of_trod {fuel : Nat} {a : Option Addr} {len cap : Nat} {x : DataW H × List MemPlace} (h : DataW.trod enc Try.prog w 0 (fun _ => true) held fuel 22 [.slice a len cap] = some x) :
    len ≤ cap ∧ cap ≤ maxLen ∧ (a = none → cap = 0) ∧ ∃ rs, Sees w a len rs := by
  rcases open_slice Try.underlying22 h with ⟨hcs, _⟩ | ⟨x, l, c, m, n, D, Pl, hcs, _, hl, hm, hmm, _, hel⟩
  · simp only [List.cons.injEq, Value.slice.injEq, and_true] at hcs
    obtain ⟨rfl, rfl, rfl⟩ := hcs
    exact ⟨Nat.le_refl _, Nat.zero_le _, fun _ => rfl, fun _ => ⟨ByteArray.empty, ByteArray.empty, 0, false, 0, 0, false, false, false, false, false, false, 0, none, 0, 0, false⟩, fun i hi => absurd hi (Nat.not_lt_zero i)⟩
  · simp only [List.cons.injEq, Value.slice.injEq, and_true] at hcs
    obtain ⟨rfl, rfl, rfl⟩ := hcs
    simp only [if_true] at hmm
    refine ⟨hl, hm, fun e => by (cases e), ?_⟩
    have each : ∀ i, i < len → ∃ r : Rep, r.ok ∧ ∃ b off, x = ⟨b, off, none⟩ ∧ b < w.heap.size ∧ ∀ j, j < 15 → w.cell? ⟨b, off + i * 15 + j, none⟩ = some (r.cell j) := by
      intro i hi
      obtain ⟨cs', hc, ht⟩ := hel i (by omega)
      obtain ⟨r, hr, hcs, _⟩ := rep_of_trod ht
      rw [cells28] at hc
      have hk := (World.cells?_some hc).2.2
      obtain ⟨cs0, hc0, _⟩ := hel 0 (by omega)
      rw [cells28] at hc0
      have hl0 := (World.cells?_some hc0).2.1
      have hk0 := (World.cells?_some hc0).2.2 0 (by omega)
      rw [List.getElem?_eq_getElem (show 0 < cs0.length by omega)] at hk0
      obtain ⟨b, off, spot⟩ := x
      have hspot : spot = none := by simpa [Addr.add] using World.cell?_spot hk0
      subst hspot
      have hlt := World.block_lt_of_cell? w _ hk0
      rw [Addr.add_lit, Addr.add_lit] at hlt
      refine ⟨r, hr, b, off, rfl, hlt, fun j hj => ?_⟩
      have e := hk j hj
      rw [Addr.add_lit, Addr.add_lit, hcs] at e
      rw [e]
      simp [hj]
    let rs : Nat → Rep := fun i => if h : i < len then (each i h).choose else ⟨ByteArray.empty, ByteArray.empty, 0, false, 0, 0, false, false, false, false, false, false, 0, none, 0, 0, false⟩
    refine ⟨rs, fun i hi => ?_⟩
    have hs := (each i hi).choose_spec
    have e : rs i = (each i hi).choose := dif_pos hi
    rw [e]
    obtain ⟨ho, b, off, hx, hb, hc⟩ := hs
    exact ⟨ho, b, off, by rw [hx], hb, hc⟩
end
end Go.Proofs.Qxb6614952a
