import Derived.Test.Qxb6614952aLagA
import Derived.Test.Qxb6614952aLagB
import Derived.Maps.AppendAt
namespace Go.Proofs.Qxb6614952a
open Go.RowKit

/-- A Reply's member: four cells. -/
def memL (r : Rep) : List Value := [.string r.id, .string r.addr, .int .i64 r.state, .bool r.retired]
def memCells (l : List Rep) : List Value := l.flatMap memL
theorem memCells_length (l : List Rep) : (memCells l).length = l.length * 4 := by
  induction l with
  | nil => rfl
  | cons r l ih =>
    have : memCells (r :: l) = memL r ++ memCells l := rfl
    rw [this, List.length_append, ih]
    simp [memL]
    omega
theorem memCells_append (a b : List Rep) : memCells (a ++ b) = memCells a ++ memCells b := by simp [memCells]
theorem memCells_one (r : Rep) : memCells [r] = memL r := by simp [memCells]
theorem memL_oneCell (r : Rep) : ∀ u ∈ memL r, u.oneCell' = true := by
  intro u hu
  simp [memL] at hu
  rcases hu with rfl | rfl | rfl | rfl <;> rfl
theorem memCells_oneCell (l : List Rep) : ∀ u ∈ memCells l, u.oneCell' = true := by
  intro u hu
  obtain ⟨r, _, h⟩ := List.mem_flatMap.1 hu
  exact memL_oneCell r u h
theorem memCells_get (l : List Rep) : ∀ (i j : Nat) (hi : i < l.length), j < 4 → (memCells l)[i * 4 + j]? = some (l[i].cell j) := by
  induction l with
  | nil => intro i j hi; exact absurd hi (Nat.not_lt_zero i)
  | cons r l ih =>
    intro i j hi hj
    have e : memCells (r :: l) = memL r ++ memCells l := rfl
    have hml : (memL r).length = 4 := rfl
    rw [e]
    cases i with
    | zero =>
      rw [List.getElem?_append_left (by omega)]
      have : j = 0 ∨ j = 1 ∨ j = 2 ∨ j = 3 := by omega
      rcases this with rfl | rfl | rfl | rfl <;> rfl
    | succ i =>
      rw [List.getElem?_append_right (by omega), hml, show (i + 1) * 4 + j - 4 = i * 4 + j by omega, ih i j (by simpa using hi) hj]
      rfl

theorem ownsRow_below {w w' : World} {base : Nat} {e : TypeId} {size : Nat} {v : Value} {n : Nat} {xs : List Value} (h : w.ownsRow base e size v n xs) (hb : Below w.heap.size w w') : w'.ownsRow base e size v n xs := by
  refine ⟨h.1, ?_⟩
  rcases h.2 with hn | ⟨g, cap, cur, rfl, hbg, hgg, rest⟩
  · exact .inl hn
  · exact .inr ⟨g, cap, cur, rfl, hbg, (hb.block g (Array.getElem?_eq_some_iff.1 hgg).1).trans hgg, rest⟩

/-- The slice v, in a row of the call's own from block base on, holds the members of l; it is nil where there are none. -/
structure Mems (w : World) (base : Nat) (v : Value) (l : List Rep) : Prop where
  own : w.ownsRow base 55 4 v l.length (memCells l)
  nil : l = [] → v = .slice none 0 0
theorem Mems.empty (w : World) (base : Nat) : Mems w base (.slice none 0 0) [] := ⟨World.ownsRow_nil w base 55 4, fun _ => rfl⟩
theorem Mems.below {w w' : World} {base : Nat} {v : Value} {l : List Rep} (h : Mems w base v l) (hb : Below w.heap.size w w') : Mems w' base v l := ⟨ownsRow_below h.own hb, h.nil⟩

/-- What holds of Lagging's loop. -/
structure LInv (w0 : World) (lo : Nat) (wr : World) (v4 v5 : Value) (bl ul : List Rep) : Prop where
  bel : Below lo w0 wr
  size : lo ≤ w0.heap.size
  m4 : Mems wr lo v4 bl
  m5 : Mems wr lo v5 ul
  dis : v4.ownBlock = none ∨ v5.ownBlock = none ∨ v4.ownBlock ≠ v5.ownBlock

theorem LInv.below {w0 wr w1 : World} {lo : Nat} {v4 v5 : Value} {bl ul : List Rep} (h : LInv w0 lo wr v4 v5 bl ul) (hb : Below wr.heap.size wr w1) : LInv w0 lo w1 v4 v5 bl ul :=
  ⟨h.bel.trans (hb.mono (Nat.le_trans h.size h.bel.size)), h.size, h.m4.below hb, h.m5.below hb, h.dis⟩
theorem LInv.alloc {w0 wr : World} {lo : Nat} {v4 v5 : Value} {bl ul : List Rep} (h : LInv w0 lo wr v4 v5 bl ul) (o : Obj) : LInv w0 lo (wr.alloc o) v4 v5 bl ul :=
  h.below ((Below.refl _ _).alloc (Nat.le_refl _) o)

theorem LInv.app4 {w0 w1 w2 : World} {lo : Nat} {v4 v5 v' : Value} {bl ul : List Rep} {r : Rep} (h : LInv w0 lo w1 v4 v5 bl ul)
    (hown : w2.ownsRow lo 55 4 v' (bl.length + 1) (memCells bl ++ memL r)) (hg : w1.grownBy w2 v4.ownBlock) (hat : v'.ownBlock = v4.ownBlock ∨ v'.ownBlock = some w1.heap.size) :
    LInv w0 lo w2 v' v5 (bl ++ [r]) ul := by
  have hlt4 := h.m4.own.lt
  have hlt5 := h.m5.own.lt
  refine ⟨h.bel.grown hg (Nat.le_trans h.size h.bel.size) (fun k e => (hlt4 k e).1), h.size, ⟨?_, fun e => by simp at e⟩, ⟨h.m5.own.kept hg ?_, h.m5.nil⟩, ?_⟩
  · rw [memCells_append, memCells_one, List.length_append]; exact hown
  · rcases h.dis with e | e | e
    · cases h5 : v5.ownBlock with
      | none => exact .inl rfl
      | some k => right; rw [e]; exact fun x => by cases x
    · exact .inl e
    · exact .inr (fun x => e x.symm)
  · rcases hat with e | e
    · rw [e]; exact h.dis
    · cases h5 : v5.ownBlock with
      | none => exact .inr (.inl rfl)
      | some k =>
        right; right
        rw [e]
        intro x
        have := (hlt5 k h5).2
        simp at x
        omega
theorem LInv.app5 {w0 w1 w2 : World} {lo : Nat} {v4 v5 v' : Value} {bl ul : List Rep} {r : Rep} (h : LInv w0 lo w1 v4 v5 bl ul)
    (hown : w2.ownsRow lo 55 4 v' (ul.length + 1) (memCells ul ++ memL r)) (hg : w1.grownBy w2 v5.ownBlock) (hat : v'.ownBlock = v5.ownBlock ∨ v'.ownBlock = some w1.heap.size) :
    LInv w0 lo w2 v4 v' bl (ul ++ [r]) := by
  have hs : LInv w0 lo w1 v5 v4 ul bl := ⟨h.bel, h.size, h.m5, h.m4, by rcases h.dis with e | e | e; exact .inr (.inl e); exact .inl e; exact .inr (.inr fun x => e x.symm)⟩
  have k := hs.app4 hown hg hat
  exact ⟨k.bel, k.size, k.m5, k.m4, by rcases k.dis with e | e | e; exact .inr (.inl e); exact .inl e; exact .inr (.inr fun x => e x.symm)⟩

/-- r's version comes before nw's. -/
def older (r nw : Rep) : Bool := olderB r.seq r.vid nw.seq nw.vid
/-- r is of another version than nw, or not clean. -/
def unmk (r nw : Rep) : Bool := !(r.seq == nw.seq && r.vid == nw.vid) || !r.clean
/-- The Replies below n that answered and meet c. -/
def pick (c : Rep → Bool) (rs : Nat → Rep) (n : Nat) : List Rep := ((List.range n).map rs).filter fun r => !r.failed && c r
theorem pick_zero (c : Rep → Bool) (rs : Nat → Rep) : pick c rs 0 = [] := rfl
theorem pick_succ (c : Rep → Bool) (rs : Nat → Rep) (k : Nat) : pick c rs (k + 1) = pick c rs k ++ if (!(rs k).failed && c (rs k)) = true then [rs k] else [] := by
  unfold pick
  rw [List.range_succ, List.map_append, List.filter_append]
  congr 1
  simp [List.filter_cons]
theorem pick_length (c : Rep → Bool) (rs : Nat → Rep) (n : Nat) : (pick c rs n).length ≤ n := by
  unfold pick
  have := List.length_filter_le (fun r => !r.failed && c r) ((List.range n).map rs)
  simpa using this
theorem older_unmk {r nw : Rep} (h : older r nw = true) : unmk r nw = true := by
  unfold older olderB at h
  unfold unmk
  by_cases e : r.seq = nw.seq
  · rw [if_pos e] at h
    have h' : r.vid < nw.vid := by simpa using h
    have : (r.vid == nw.vid) = false := by simp; omega
    simp [this]
  · have : (r.seq == nw.seq) = false := by simpa using e
    simp [this]
end Go.Proofs.Qxb6614952a
