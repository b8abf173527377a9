import Derived.Test.Qxb6614952aAns
namespace Go.Proofs.Qxb6614952a
open Go.RowKit

theorem run_make_n {P : Program} (t e : TypeId) (z : Value) (size bytes : Nat) (ht : P.underlying t = some (.slice e)) (hinfo : (P.info? e).map (fun i => (i.zero, i.size, i.bytes)) = some (some z, size, bytes))
    (kl kc : IntKind) (n : Nat) (hbytes : bytes * n ≤ 281474976710656) (h63 : n ≤ 9223372036854775807) (w : World) :
    (Instr.makeSlice t (.int kl (n : Int)) (.int kc (n : Int))).run P w = .ok (.slice (some ⟨w.heap.size, 0, none⟩) n n) (w.alloc (.cells (madeCells z.cells (n * size)) e)) := by
  obtain ⟨i, hi, hz, hs, hb⟩ := info_parts hinfo
  subst hs; subst hb
  have hb' : (i.bytes : Int) * (n : Int) ≤ 281474976710656 := by
    have h : ((i.bytes * n : Nat) : Int) ≤ 281474976710656 := by omega
    rwa [Int.natCast_mul] at h
  have hr := run_make (P := P) w t e i z ht hi hz kl kc n n (by omega) (Int.le_refl _) hb' (by omega)
  simp only [Int.toNat_natCast] at hr
  exact hr

theorem rowIs_some (w : World) (c : Array Value) (t : TypeId) (n : Nat) (hn : c.size = n) : ∃ f, (w.alloc (.cells c t)).rowIs w.heap.size t n f := by
  subst hn
  exact ⟨fun i => (c[i]?).getD undef, World.rowIs_alloc w c t _ (fun i hi => by simp [hi])⟩

theorem info55 : (Try.prog.info? 55).map (fun i => (i.zero, i.size, i.bytes)) = some (some (.agg #[.string ByteArray.empty, .string ByteArray.empty, .int .i64 0, .bool false]), 4, 48) := by kernel_rfl
theorem info42 : (Try.prog.info? 42).map (fun i => (i.zero, i.size, i.bytes)) = some (some (.agg #[.int .u64 0, .int .u64 0, .bool false, .bool false, .bool false, .bool false, .bool false, .bool false, .int .u64 0, .slice none 0 0]), 10, 56) := by kernel_rfl
theorem info4 : (Try.prog.info? 4).map (fun i => (i.zero, i.size, i.bytes)) = some (some (.bool false), 1, 1) := by kernel_rfl

/-- The Answers built of the Replies rs, in rows that lie from block lo on. -/
def IsAns (w : World) (lo n : Nat) (rs : Nat → Rep) (v : Value) : Prop :=
  ∃ gA gR gE fA fR ev, lo ≤ gA ∧ lo ≤ gR ∧ lo ≤ gE ∧ v = .agg #[.slice (some ⟨gA, 0, none⟩) n n, .slice (some ⟨gR, 0, none⟩) n n, .slice (some ⟨gE, 0, none⟩) n n] ∧
    w.rowIs gA 55 (n * 4) fA ∧ (∀ i, i < n → ∀ j, j < 4 → fA (i * 4 + j) = (rs i).cell j) ∧
    w.rowIs gR 42 (n * 10) fR ∧ (∀ i, i < n → ∀ j, j < 10 → fR (i * 10 + j) = (rs i).cell (4 + j)) ∧
    w.rowIs gE 73 n ev ∧ (∀ i, i < n → IsErr (ev i) (rs i).failed)

theorem rowPut {w : World} {b : Nat} {t : TypeId} {n : Nat} {f : Nat → Value} (h : w.rowIs b t n f) {g : Nat} (hg : b ≠ g) (o : Nat) (v : Value) : (w.setCell ⟨g, o, none⟩ v).rowIs b t n f := h.setOther hg v
theorem belPut {B : Nat} {a w : World} (h : Below B a w) {g : Nat} (hg : B ≤ g) (o : Nat) (v : Value) : Below B a (w.setCell ⟨g, o, none⟩ v) := h.setCell hg v

/-- What holds of buildAnswers' loop: kA, kR, kF: how many elements of each row are laid. -/
structure BInv (w wr : World) (n kA kR kF : Nat) (rs : Nat → Rep) : Prop where
  bel : Below w.heap.size w wr
  res : ∃ f0, wr.rowIs w.heap.size 50 3 f0
  rowA : ∃ fA, wr.rowIs (w.heap.size + 1) 55 (n * 4) fA ∧ ∀ i, i < kA → ∀ j, j < 4 → fA (i * 4 + j) = (rs i).cell j
  rowR : ∃ fR, wr.rowIs (w.heap.size + 1 + 1) 42 (n * 10) fR ∧ ∀ i, i < kR → ∀ j, j < 10 → fR (i * 10 + j) = (rs i).cell (4 + j)
  rowF : ∃ fF, wr.rowIs (w.heap.size + 1 + 1 + 1) 4 n fF ∧ ∀ i, i < kF → fF i = .bool (rs i).failed

theorem BInv.start (w : World) (n : Nat) (rs : Nat → Rep) (A R F : Array Value) (hA : A.size = n * 4) (hR : R.size = n * 10) (hF : F.size = n) :
    BInv w ((((w.alloc (.cells #[.slice none 0 0, .slice none 0 0, .slice none 0 0] 50)).alloc (.cells A 55)).alloc (.cells R 42)).alloc (.cells F 4)) n 0 0 0 rs := by
  obtain ⟨f0, h0⟩ := rowIs_some w #[.slice none 0 0, .slice none 0 0, .slice none 0 0] 50 3 rfl
  obtain ⟨fA, h1⟩ := rowIs_some (w.alloc (.cells #[.slice none 0 0, .slice none 0 0, .slice none 0 0] 50)) A 55 _ hA
  obtain ⟨fR, h2⟩ := rowIs_some ((w.alloc (.cells #[.slice none 0 0, .slice none 0 0, .slice none 0 0] 50)).alloc (.cells A 55)) R 42 _ hR
  obtain ⟨fF, h3⟩ := rowIs_some (((w.alloc (.cells #[.slice none 0 0, .slice none 0 0, .slice none 0 0] 50)).alloc (.cells A 55)).alloc (.cells R 42)) F 4 _ hF
  simp only [World.size_alloc] at h1 h2 h3
  refine ⟨?_, ⟨f0, ((h0.alloc _).alloc _).alloc _⟩, ⟨fA, (h1.alloc _).alloc _, fun i hi => absurd hi (Nat.not_lt_zero i)⟩, ⟨fR, h2.alloc _, fun i hi => absurd hi (Nat.not_lt_zero i)⟩, ⟨fF, h3, fun i hi => absurd hi (Nat.not_lt_zero i)⟩⟩
  exact ((((Below.refl _ _).alloc (Nat.le_refl _) _).alloc (by simp) _).alloc (by simp; omega) _).alloc (by simp; omega) _

theorem BInv.below {w wr w1 : World} {n kA kR kF : Nat} {rs : Nat → Rep} (h : BInv w wr n kA kR kF rs) (hb : Below wr.heap.size wr w1) : BInv w w1 n kA kR kF rs := by
  obtain ⟨bel, ⟨f0, r0⟩, ⟨fA, rA, cA⟩, ⟨fR, rR, cR⟩, fF, rF, cF⟩ := h
  exact ⟨bel.trans (hb.mono bel.size), ⟨f0, rowIs_below r0 hb⟩, ⟨fA, rowIs_below rA hb, cA⟩, ⟨fR, rowIs_below rR hb, cR⟩, fF, rowIs_below rF hb, cF⟩

theorem BInv.src {w wr : World} {n kA kR kF : Nat} {rs : Nat → Rep} (h : BInv w wr n kA kR kF rs) {b o : Nat} {v : Value} (hb : b < w.heap.size) (hc : w.cell? ⟨b, o, none⟩ = some v) : wr.cell? ⟨b, o, none⟩ = some v :=
  (h.bel.cell (p := ⟨b, o, none⟩) hb).trans hc

theorem BInv.putA {w w1 : World} {n k kR kF : Nat} {rs : Nat → Rep} (h : BInv w w1 n k kR kF rs) :
    BInv w ((((w1.setCell ⟨w.heap.size + 1, k * 4, none⟩ (.string (rs k).id)).setCell ⟨w.heap.size + 1, k * 4 + 1, none⟩ (.string (rs k).addr)).setCell ⟨w.heap.size + 1, k * 4 + 2, none⟩ (.int .i64 (rs k).state)).setCell ⟨w.heap.size + 1, k * 4 + 3, none⟩ (.bool (rs k).retired)) n (k + 1) kR kF rs := by
  obtain ⟨bel, ⟨f0, r0⟩, ⟨fA, rA, cA⟩, ⟨fR, rR, cR⟩, fF, rF, cF⟩ := h
  refine ⟨(belPut (belPut (belPut (belPut bel (by omega) _ _) (by omega) _ _) (by omega) _ _) (by omega) _ _), ⟨f0, (rowPut (rowPut (rowPut (rowPut r0 (by omega) _ _) (by omega) _ _) (by omega) _ _) (by omega) _ _)⟩, ⟨_, ((((rA.set (k * 4) _).set (k * 4 + 1) _).set (k * 4 + 2) _).set (k * 4 + 3) _), fun i hi j hj => ?_⟩, ⟨fR, (rowPut (rowPut (rowPut (rowPut rR (by omega) _ _) (by omega) _ _) (by omega) _ _) (by omega) _ _), cR⟩, fF, (rowPut (rowPut (rowPut (rowPut rF (by omega) _ _) (by omega) _ _) (by omega) _ _) (by omega) _ _), cF⟩
  by_cases e : i = k
  · subst e
    have : j = 0 ∨ j = 1 ∨ j = 2 ∨ j = 3 := by omega
    rcases this with rfl | rfl | rfl | rfl <;> simp [Rep.cell]
  · show ite _ _ _ = _
    rw [if_neg (by omega)]; rw [if_neg (by omega)]; rw [if_neg (by omega)]; rw [if_neg (by omega)]
    exact cA i (by omega) j hj

theorem BInv.putR {w w1 : World} {n k kA kF : Nat} {rs : Nat → Rep} (h : BInv w w1 n kA k kF rs) :
    BInv w ((((((((((w1.setCell ⟨w.heap.size + 1 + 1, k * 10, none⟩ (.int .u64 (rs k).seq)).setCell ⟨w.heap.size + 1 + 1, k * 10 + 1, none⟩ (.int .u64 (rs k).vid)).setCell ⟨w.heap.size + 1 + 1, k * 10 + 2, none⟩ (.bool (rs k).deleted)).setCell ⟨w.heap.size + 1 + 1, k * 10 + 3, none⟩ (.bool (rs k).clean)).setCell ⟨w.heap.size + 1 + 1, k * 10 + 4, none⟩ (.bool (rs k).settled)).setCell ⟨w.heap.size + 1 + 1, k * 10 + 5, none⟩ (.bool (rs k).away)).setCell ⟨w.heap.size + 1 + 1, k * 10 + 6, none⟩ (.bool (rs k).short)).setCell ⟨w.heap.size + 1 + 1, k * 10 + 7, none⟩ (.bool (rs k).held)).setCell ⟨w.heap.size + 1 + 1, k * 10 + 8, none⟩ (.int .u64 (rs k).taken)).setCell ⟨w.heap.size + 1 + 1, k * 10 + 9, none⟩ (.slice (rs k).va (rs k).vlen (rs k).vcap)) n kA (k + 1) kF rs := by
  obtain ⟨bel, ⟨f0, r0⟩, ⟨fA, rA, cA⟩, ⟨fR, rR, cR⟩, fF, rF, cF⟩ := h
  refine ⟨(belPut (belPut (belPut (belPut (belPut (belPut (belPut (belPut (belPut (belPut bel (by omega) _ _) (by omega) _ _) (by omega) _ _) (by omega) _ _) (by omega) _ _) (by omega) _ _) (by omega) _ _) (by omega) _ _) (by omega) _ _) (by omega) _ _), ⟨f0, (rowPut (rowPut (rowPut (rowPut (rowPut (rowPut (rowPut (rowPut (rowPut (rowPut r0 (by omega) _ _) (by omega) _ _) (by omega) _ _) (by omega) _ _) (by omega) _ _) (by omega) _ _) (by omega) _ _) (by omega) _ _) (by omega) _ _) (by omega) _ _)⟩, ⟨fA, (rowPut (rowPut (rowPut (rowPut (rowPut (rowPut (rowPut (rowPut (rowPut (rowPut rA (by omega) _ _) (by omega) _ _) (by omega) _ _) (by omega) _ _) (by omega) _ _) (by omega) _ _) (by omega) _ _) (by omega) _ _) (by omega) _ _) (by omega) _ _), cA⟩, ⟨_, ((((((((((rR.set (k * 10) _).set (k * 10 + 1) _).set (k * 10 + 2) _).set (k * 10 + 3) _).set (k * 10 + 4) _).set (k * 10 + 5) _).set (k * 10 + 6) _).set (k * 10 + 7) _).set (k * 10 + 8) _).set (k * 10 + 9) _), fun i hi j hj => ?_⟩, fF, (rowPut (rowPut (rowPut (rowPut (rowPut (rowPut (rowPut (rowPut (rowPut (rowPut rF (by omega) _ _) (by omega) _ _) (by omega) _ _) (by omega) _ _) (by omega) _ _) (by omega) _ _) (by omega) _ _) (by omega) _ _) (by omega) _ _) (by omega) _ _), cF⟩
  by_cases e : i = k
  · subst e
    have : j = 0 ∨ j = 1 ∨ j = 2 ∨ j = 3 ∨ j = 4 ∨ j = 5 ∨ j = 6 ∨ j = 7 ∨ j = 8 ∨ j = 9 := by omega
    rcases this with rfl | rfl | rfl | rfl | rfl | rfl | rfl | rfl | rfl | rfl <;> simp [Rep.cell]
  · show ite _ _ _ = _
    rw [if_neg (by omega)]; rw [if_neg (by omega)]; rw [if_neg (by omega)]; rw [if_neg (by omega)]; rw [if_neg (by omega)]; rw [if_neg (by omega)]; rw [if_neg (by omega)]; rw [if_neg (by omega)]; rw [if_neg (by omega)]; rw [if_neg (by omega)]
    exact cR i (by omega) j hj

theorem BInv.putF {w w1 : World} {n k kA kR : Nat} {rs : Nat → Rep} (h : BInv w w1 n kA kR k rs) :
    BInv w (w1.setCell ⟨w.heap.size + 1 + 1 + 1, k, none⟩ (.bool (rs k).failed)) n kA kR (k + 1) rs := by
  obtain ⟨bel, ⟨f0, r0⟩, ⟨fA, rA, cA⟩, ⟨fR, rR, cR⟩, fF, rF, cF⟩ := h
  refine ⟨(belPut bel (by omega) _ _), ⟨f0, (rowPut r0 (by omega) _ _)⟩, ⟨fA, (rowPut rA (by omega) _ _), cA⟩, ⟨fR, (rowPut rR (by omega) _ _), cR⟩, _, rF.set k _, fun i hi => ?_⟩
  by_cases e : i = k
  · subst e; simp
  · simp only [if_neg e]
    exact cF i (by omega)

set_option maxHeartbeats 1600000 in
theorem buildAnswers_any (a : Option Addr) (n cap : Nat) (rs : Nat → Rep) (w : World) (hn : n ≤ 16777216) (hs : Sees w a n rs) :
    Calls Try.prog 19 #[.slice a n cap] w fun e w' => ∃ v, e = .returned v ∧ IsAns w' w.heap.size n rs v ∧ Below w.heap.size w w' := by
  have HS := hide hs
  clear hs
  have hm1 := fun w => run_make_n (P := Try.prog) 44 55 _ 4 48 Try.underlying44 info55 .i64 .i64 n (by omega) (by omega) w
  have hm2 := fun w => run_make_n (P := Try.prog) 47 42 _ 10 56 Try.underlying47 info42 .i64 .i64 n (by omega) (by omega) w
  have hm3 := fun w => run_make_n (P := Try.prog) 76 4 _ 1 1 Try.underlying76 info4 .i64 .i64 n (by omega) (by omega) w
  generalize hA : madeCells (Value.agg #[.string ByteArray.empty, .string ByteArray.empty, .int .i64 0, .bool false]).cells (n * 4) = A at hm1
  generalize hR : madeCells (Value.agg #[.int .u64 0, .int .u64 0, .bool false, .bool false, .bool false, .bool false, .bool false, .bool false, .int .u64 0, .slice none 0 0]).cells (n * 10) = R at hm2
  generalize hF : madeCells (Value.bool false).cells (n * 1) = F at hm3
  have HA : Hid (A.size = n * 4) := by rw [← hA]; exact size_madeCells _ _
  have HR : Hid (R.size = n * 10) := by rw [← hR]; exact size_madeCells _ _
  have HF : Hid (F.size = n) := by rw [← hF]; show _ = n; rw [size_madeCells]; omega
  clear hA hR hF
  go_enter Try.func19, Try.ntmps19
  go_wp2
  clear hm1 hm2 hm3
  go_loopw [6] (fun i wr => ∃ k : Nat, k ≤ n ∧ i = .int .i64 k ∧ BInv w wr n k k k rs) (fun i _ => n - (intOf i).toNat)
  case atStart => exact ⟨0, Nat.zero_le _, rfl, BInv.start w n rs A R F HA.out HR.out HF.out⟩
  case round =>
    obtain ⟨k, hk, rfl, hI⟩ := hrel
    have HI := hide hI
    clear hI
    by_cases hlt : k < n
    · obtain ⟨⟨ho1, ho2, ho3⟩, b, off, ha, hblt, hc⟩ := HS.out k hlt
      have HC := hide hc
      clear hc
      have e0 := HI.out.src hblt (HC.out 0 (by omega))
      have e1 := HI.out.src hblt (HC.out 1 (by omega))
      have e2 := HI.out.src hblt (HC.out 2 (by omega))
      have e3 := HI.out.src hblt (HC.out 3 (by omega))
      have e4 := HI.out.src hblt (HC.out 4 (by omega))
      have e5 := HI.out.src hblt (HC.out 5 (by omega))
      have e6 := HI.out.src hblt (HC.out 6 (by omega))
      have e7 := HI.out.src hblt (HC.out 7 (by omega))
      have e8 := HI.out.src hblt (HC.out 8 (by omega))
      have e9 := HI.out.src hblt (HC.out 9 (by omega))
      have e10 := HI.out.src hblt (HC.out 10 (by omega))
      have e11 := HI.out.src hblt (HC.out 11 (by omega))
      have e12 := HI.out.src hblt (HC.out 12 (by omega))
      have e13 := HI.out.src hblt (HC.out 13 (by omega))
      have e14 := HI.out.src hblt (HC.out 14 (by omega))
      simp only [Rep.cell, Nat.add_zero] at e0 e1 e2 e3 e4 e5 e6 e7 e8 e9 e10 e11 e12 e13 e14
      subst ha
      go_wp2_with fail
      refine (toMember_any (rs k) _).mono ?_
      rintro e w1 ⟨rfl, hb1⟩
      clear e0 e1 e2 e3 e4 e5 e6 e7 e8 e9 e10 e11 e12 e13 e14
      have HI1 := hide (HI.out.below hb1)
      obtain ⟨fA, hrA, _⟩ := HI1.out.rowA
      have a0 := hrA.cell (i := k * 4) (by omega)
      have z0 := hrA.frozen (k * 4)
      have a1 := hrA.cell (i := k * 4 + 1) (by omega)
      have z1 := hrA.frozen (k * 4 + 1)
      have a2 := hrA.cell (i := k * 4 + 2) (by omega)
      have z2 := hrA.frozen (k * 4 + 2)
      have a3 := hrA.cell (i := k * 4 + 3) (by omega)
      have z3 := hrA.frozen (k * 4 + 3)
      have hne : ¬ b = w.heap.size + 1 := by omega
      clear hrA hb1
      have d4 := HI1.out.src hblt (HC.out 4 (by omega))
      have d5 := HI1.out.src hblt (HC.out 5 (by omega))
      have d6 := HI1.out.src hblt (HC.out 6 (by omega))
      have d7 := HI1.out.src hblt (HC.out 7 (by omega))
      have d8 := HI1.out.src hblt (HC.out 8 (by omega))
      have d9 := HI1.out.src hblt (HC.out 9 (by omega))
      have d10 := HI1.out.src hblt (HC.out 10 (by omega))
      have d11 := HI1.out.src hblt (HC.out 11 (by omega))
      have d12 := HI1.out.src hblt (HC.out 12 (by omega))
      have d13 := HI1.out.src hblt (HC.out 13 (by omega))
      simp only [Rep.cell] at d4 d5 d6 d7 d8 d9 d10 d11 d12 d13
      go_wp2_with fail
      refine (toRecord_any (rs k) _).mono ?_
      rintro e w2 ⟨rfl, hb2⟩
      clear a0 a1 a2 a3 z0 z1 z2 z3 hne d4 d5 d6 d7 d8 d9 d10 d11 d12 d13
      have HI2 := hide (HI1.out.putA.below hb2)
      obtain ⟨fR, hrR, _⟩ := HI2.out.rowR
      have a0 := hrR.cell (i := k * 10) (by omega)
      have z0 := hrR.frozen (k * 10)
      have a1 := hrR.cell (i := k * 10 + 1) (by omega)
      have z1 := hrR.frozen (k * 10 + 1)
      have a2 := hrR.cell (i := k * 10 + 2) (by omega)
      have z2 := hrR.frozen (k * 10 + 2)
      have a3 := hrR.cell (i := k * 10 + 3) (by omega)
      have z3 := hrR.frozen (k * 10 + 3)
      have a4 := hrR.cell (i := k * 10 + 4) (by omega)
      have z4 := hrR.frozen (k * 10 + 4)
      have a5 := hrR.cell (i := k * 10 + 5) (by omega)
      have z5 := hrR.frozen (k * 10 + 5)
      have a6 := hrR.cell (i := k * 10 + 6) (by omega)
      have z6 := hrR.frozen (k * 10 + 6)
      have a7 := hrR.cell (i := k * 10 + 7) (by omega)
      have z7 := hrR.frozen (k * 10 + 7)
      have a8 := hrR.cell (i := k * 10 + 8) (by omega)
      have z8 := hrR.frozen (k * 10 + 8)
      have a9 := hrR.cell (i := k * 10 + 9) (by omega)
      have z9 := hrR.frozen (k * 10 + 9)
      have hne : ¬ b = w.heap.size + 1 + 1 := by omega
      have d14 := HI2.out.src hblt (HC.out 14 (by omega))
      simp only [Rep.cell] at d14
      obtain ⟨fF, hrF, _⟩ := HI2.out.rowF
      have f0 := hrF.cell (i := k) hlt
      have f1 := hrF.frozen k
      clear hrR hrF hb2
      go_wp2
      go_roundw
      case rel => exact ⟨k + 1, by omega, by go_num, HI2.out.putR.putF⟩
      case measure => simp [intOf]; omega
    · obtain rfl : k = n := by omega
      obtain ⟨fF, hrF, hcF⟩ := HI.out.rowF
      have hrF' : wr.rowIs (w.heap.size + 1 + 1 + 1) 4 k (fun i => .bool (rs i).failed) := hrF.congr hcF
      have HF' := hide hrF'
      clear hrF hcF hrF'
      go_wp2_with fail
      refine (zzAnswers_any _ _ _ _ _ _ (w.heap.size + 1 + 1 + 1) k (fun i => (rs i).failed) _ hn HF'.out).mono ?_
      rintro e w2 ⟨g, ev, hg, rfl, hev, herr, hb⟩
      have HI2 := hide (HI.out.below hb)
      have HG : Hid (w.heap.size + 4 ≤ g) := by have := HF'.out.lt; exact (by omega : w.heap.size + 4 ≤ g)
      have HEV := hide hev
      have HERR := hide herr
      obtain ⟨f0, r0⟩ := HI2.out.res
      have HR0 := hide r0
      have z0 := r0.cell (i := 0) (by omega)
      have z1 := r0.cell (i := 1) (by omega)
      have z2 := r0.cell (i := 2) (by omega)
      have y0 := r0.frozen 0
      have y1 := r0.frozen 1
      have y2 := r0.frozen 2
      clear hev herr hb r0 hg
      go_wp2
      refine bodyPost_ret (v := .agg #[.slice (some ⟨w.heap.size + 1, 0, none⟩) k k, .slice (some ⟨w.heap.size + 1 + 1, 0, none⟩) k k, .slice (some ⟨g, 0, none⟩) k k]) (by simp [results, Try.results19, go_sem, z0, z1, z2]) rfl ⟨_, rfl, ?_, ?_⟩
      · obtain ⟨fA, hrA, hcA⟩ := HI2.out.rowA
        obtain ⟨fR, hrR, hcR⟩ := HI2.out.rowR
        have hG := HG.out
        exact ⟨w.heap.size + 1, w.heap.size + 1 + 1, g, fA, fR, ev, by omega, by omega, by omega, rfl, rowPut (rowPut (rowPut hrA (by omega) _ _) (by omega) _ _) (by omega) _ _, hcA, rowPut (rowPut (rowPut hrR (by omega) _ _) (by omega) _ _) (by omega) _ _, hcR, rowPut (rowPut (rowPut HEV.out (by omega) _ _) (by omega) _ _) (by omega) _ _, HERR.out⟩
      · exact belPut (belPut (belPut HI2.out.bel (by omega) _ _) (by omega) _ _) (by omega) _ _
end Go.Proofs.Qxb6614952a
