import Derived.Test.Qxb6614952aIns
import Derived.Laws.CopyOwn
namespace Go.Proofs.Qxb6614952a
open Go.RowKit

/-- copy into a row that is known whole, elements of 'size' cells. -/
theorem run_copy_wide {P : Program} (w : World) (dT sT ty elem : TypeId) (g dLen dCap : Nat) (a : Addr) (sLen sCap : Nat) (cur : Array Value) (t : TypeId) (cs : List Value) (size : Nat)
    (hu : P.underlying dT = some (.slice elem)) (hs : (P.info? elem).map (·.size) = some size)
    (hg : w.heap[g]? = some (.cells cur t (0, 0))) (hn : cs.length = Nat.min sLen dLen * size)
    (hsrc : ∀ j v, cs[j]? = some v → w.cell? (a.add j) = some v) (hfit : cs.length ≤ cur.size) (h1 : ∀ v ∈ cs, v.oneCell' = true) :
    (Builtin.copy_ #[dT, sT] ty #[.slice (some ⟨g, 0, none⟩) dLen dCap, .slice (some a) sLen sCap]).run P w =
      .ok (goInt (Nat.min sLen dLen)) (w.setRow g (cs ++ cur.toList.drop cs.length).toArray) := by
  have hl := run_loadCells_list (P := P) w a cs hsrc
  have hst := run_storeCells_at P g 0 t cs 0 cur w hg (by simpa using hfit) h1
  cases hq : P.info? elem with
  | none => simp [hq] at hs
  | some i =>
    have hi : i.size = size := by simpa [hq] using hs
    simp [Builtin.copy_, run_underlying hu, Builtin.lenOf, Builtin.firstCells, sizeOf, typeInfo, hq, hi, ← hn, hl, hst]

theorem run_copy_none' {P : Program} (w : World) (dT sT ty elem : TypeId) (d a : Option Addr) (dCap sCap : Nat) (hu : P.underlying dT = some (.slice elem)) (hs : ((P.info? elem).map (·.size)).isSome = true) :
    (Builtin.copy_ #[dT, sT] ty #[.slice d 0 dCap, .slice a 0 sCap]).run P w = .ok (goInt 0) w := by
  cases hq : P.info? elem with
  | none => simp [hq] at hs
  | some i =>
    have hl : ∀ (x : Addr), (loadCells x 0).run P w = .ok #[] w := fun x => by simpa using run_loadCells_list (P := P) w x [] (by simp)
    cases d <;> cases a <;> simp [Builtin.copy_, run_underlying hu, Builtin.lenOf, Builtin.firstCells, sizeOf, typeInfo, hq, storeCells, hl]

/-- copy(dst, src), both of n elements, dst a row of this call's own that is overwritten whole. -/
theorem wpList_copy_whole {P : Program} {w : World} {ops : Array Oper} {rest : List Oper} {o : Oper} {a : Act} {Q : Exit → Act → World → Prop} (hgd : o.guard = none) (d s : Operand) (dT sT : TypeId)
    (ho : o.op = .call { callee := .builtin .copy, args := #[d, s], argTypes := #[dT, sT] }) (elem : TypeId) (size : Nat) (hu : P.underlying dT = some (.slice elem)) (hsz : (P.info? elem).map (·.size) = some size)
    (g n dCap sCap : Nat) (sp : Option Addr) (hd : a.eval d = .slice (some ⟨g, 0, none⟩) n dCap) (hs : a.eval s = .slice sp n sCap)
    (cur : Array Value) (t : TypeId) (hg : w.heap[g]? = some (.cells cur t (0, 0))) (cs : List Value) (hn : cs.length = n * size) (hcur : cur.size = n * size)
    (hsrc : 0 < n → ∃ ad, sp = some ad ∧ ∀ j v, cs[j]? = some v → w.cell? (ad.add j) = some v) (h1 : ∀ v ∈ cs, v.oneCell' = true)
    (h : wpList P ops Q rest (a.put o.dst (goInt n)) (w.setRow g cs.toArray)) : wpList P ops Q (o :: rest) a w := by
  refine wpList_plain hgd fun K hK => ?_
  by_cases h0 : n = 0
  · subst h0
    have hrun := run_copy_none' (P := P) w dT sT o.type elem (some ⟨g, 0, none⟩) sp dCap sCap hu (by rw [hsz]; rfl)
    have e1 : cs = [] := List.eq_nil_of_length_eq_zero (by omega)
    have e2 : w.setRow g cs.toArray = w := by
      have : cs.toArray = cur := by
        rw [e1]
        exact (Array.eq_empty_of_size_eq_zero (by omega)).symm
      rw [this]
      exact setRow_self w g cur t _ hg
    rw [e2] at h
    unfold Oper.wp
    simp [execOp, ho, resolve, invoke, builtin, hd, hs, hrun, Result.andThen]
    exact hK _ _ h
  · obtain ⟨ad, rfl, hsrc2⟩ := hsrc (by omega)
    have hrun := run_copy_wide (P := P) w dT sT o.type elem g n dCap ad n sCap cur t cs size hu hsz hg (by rw [hn]; simp) hsrc2 (by omega) h1
    rw [List.drop_eq_nil_of_le (by simp [hcur, hn]), List.append_nil] at hrun
    have e : Nat.min n n = n := Nat.min_self n
    rw [e] at hrun
    unfold Oper.wp
    simp [execOp, ho, resolve, invoke, builtin, hd, hs, hrun, Result.andThen]
    exact hK _ _ h

/-- Block g is a row of the Replies rs. -/
def RowReps (w : World) (g n : Nat) (rs : Nat → Rep) : Prop :=
  (∀ i, i < n → (rs i).ok) ∧ ∃ f, w.rowIs g 28 (n * 15) f ∧ ∀ i, i < n → ∀ j, j < 15 → f (i * 15 + j) = (rs i).cell j
theorem RowReps.sees {w : World} {g n : Nat} {rs : Nat → Rep} (h : RowReps w g n rs) : Sees w (some ⟨g, 0, none⟩) n rs := by
  obtain ⟨ho, f, hr, hf⟩ := h
  intro i hi
  refine ⟨ho i hi, g, 0, rfl, hr.lt, fun j hj => ?_⟩
  rw [Nat.zero_add, hr.cell (by omega), hf i hi j hj]
theorem RowReps.below {w w' : World} {g n : Nat} {rs : Nat → Rep} (h : RowReps w g n rs) (hb : Below w.heap.size w w') : RowReps w' g n rs := by
  obtain ⟨ho, f, hr, hf⟩ := h
  exact ⟨ho, f, rowIs_below hr hb, hf⟩

/-- The Reply with its failed mark set. -/
def Rep.fail (r : Rep) : Rep := { r with failed := true }
def failAt (rs : Nat → Rep) (k i : Nat) : Rep := if i = k then (rs i).fail else rs i
theorem RowReps.failed {w : World} {g n : Nat} {rs : Nat → Rep} (h : RowReps w g n rs) (k : Nat) : RowReps (w.setCell ⟨g, k * 15 + 14, none⟩ (.bool true)) g n (failAt rs k) := by
  obtain ⟨ho, f, hr, hf⟩ := h
  refine ⟨fun i hi => ?_, _, hr.set (k * 15 + 14) _, fun i hi j hj => ?_⟩
  · unfold failAt
    split
    · exact ho i hi
    · exact ho i hi
  · show ite _ _ _ = _
    unfold failAt
    by_cases e : i = k
    · subst e
      rw [if_pos rfl]
      by_cases e2 : j = 14
      · subst e2; rw [if_pos rfl]; rfl
      · rw [if_neg (by omega), hf i hi j hj]
        have : j = 0 ∨ j = 1 ∨ j = 2 ∨ j = 3 ∨ j = 4 ∨ j = 5 ∨ j = 6 ∨ j = 7 ∨ j = 8 ∨ j = 9 ∨ j = 10 ∨ j = 11 ∨ j = 12 ∨ j = 13 := by omega
        rcases this with rfl | rfl | rfl | rfl | rfl | rfl | rfl | rfl | rfl | rfl | rfl | rfl | rfl | rfl <;> rfl
    · rw [if_neg (by omega), if_neg e, hf i hi j hj]

theorem make28n (n : Nat) (hn : n ≤ 16777216) : ∃ C : Array Value, C.size = n * 15 ∧ ∀ w : World, (Instr.makeSlice 22 (.int .i64 (n : Int)) (.int .i64 (n : Int))).run Try.prog w = .ok (.slice (some ⟨w.heap.size, 0, none⟩) n n) (w.alloc (.cells C 28)) :=
  ⟨_, size_madeCells _ _, fun w => run_make_n (P := Try.prog) 22 28 _ 15 112 Try.underlying22 info28 .i64 .i64 n (by omega) (by omega) w⟩

theorem size28 : (Try.prog.info? 28).map (·.size) = some 15 := by kernel_rfl

set_option maxHeartbeats 800000 in
theorem clone_any (a : Option Addr) (n cap : Nat) (rs : Nat → Rep) (w : World) (hn : n ≤ 1048576) (hs : Sees w a n rs) :
    Calls Try.prog 14 #[.slice a n cap] w fun e w' => e = .returned (.slice (some ⟨w.heap.size, 0, none⟩) n n) ∧ RowReps w' w.heap.size n rs ∧ Below w.heap.size w w' := by
  have HS := hide hs
  clear hs
  obtain ⟨C, hC, hmk⟩ := make28n n (by omega)
  have HC := hide hC
  clear hC
  have HB0 : Hid (Below w.heap.size w (w.alloc (.cells C 28))) := (Below.refl _ _).alloc (Nat.le_refl _) _
  have hg : (w.alloc (.cells C 28)).heap[w.heap.size]? = some (.cells C 28 (0, 0)) := heap_alloc_new w _
  have HG := hide hg
  clear hg
  go_enter Try.func14, Try.ntmps14
  go_wp2_with (refine wpList_copy_whole rfl _ _ 22 22 rfl 28 15 Try.underlying22 size28 w.heap.size n n cap a rfl rfl C 28 HG.out (listOf rs n) (listOf_length _ _) HC.out ?hs (listOf_oneCell _ _) ?_)
  case hs =>
    intro h0
    obtain ⟨_, b, off, ha, hblt, _⟩ := HS.out 0 h0
    refine ⟨_, ha, fun j v hv => ?_⟩
    have h := listOf_cells (HS.out.below HB0.out) 0 n (by omega) (ao := some ⟨b, off, none⟩) (fun _ b' off' e => by rw [ha] at e; cases e; simp) _ rfl j v
    simp only [Nat.zero_add] at h
    exact h hv
  have HB1 : Hid (Below w.heap.size w ((w.alloc (.cells C 28)).setRow w.heap.size (listOf rs n).toArray)) := below_setRow HB0.out (Nat.le_refl _) _
  have HR1 : Hid (RowReps ((w.alloc (.cells C 28)).setRow w.heap.size (listOf rs n).toArray) w.heap.size n rs) := by
    refine ⟨fun i hi => (HS.out i hi).1, fun j => (rs (j / 15)).cell (j % 15), ⟨(listOf rs n).toArray, setRow_heap _ _ _ _ _ _ HG.out, by simp [listOf_length], fun i hi => ?_⟩, fun i hi j hj => ?_⟩
    · simp [listOf, hi]
    · have e1 : (i * 15 + j) / 15 = i := by omega
      have e2 : (i * 15 + j) % 15 = j := by omega
      simp only [e1, e2]
  go_wp2
  go_ret
  exact ⟨rfl, HR1.out, HB1.out⟩
end Go.Proofs.Qxb6614952a
