import Derived.Test.Qxb6616170aWg
import Derived.Lib.VarintMem
import Derived.Lib.Slices
namespace Go.Proofs.Qxb6616170a
open Go.RowKit

/-- The world has turned in none of its blocks but those in S; more have come. -/
structure Kept (S : Nat → Prop) (w w' : World) : Prop where
  os : w'.os = w.os
  tape : w'.tape = w.tape
  output : w'.output = w.output
  size : w.heap.size ≤ w'.heap.size
  block : ∀ k, k < w.heap.size → ¬ S k → w'.heap[k]? = w.heap[k]?
theorem Kept.refl (S : Nat → Prop) (w : World) : Kept S w w := ⟨rfl, rfl, rfl, Nat.le_refl _, fun _ _ _ => rfl⟩
theorem Kept.trans {S T : Nat → Prop} {a b c : World} (h : Kept S a b) (k : Kept T b c) (hS : ∀ k, k < a.heap.size → T k → S k) : Kept S a c :=
  ⟨k.os.trans h.os, k.tape.trans h.tape, k.output.trans h.output, Nat.le_trans h.size k.size, fun i hi hn => (k.block i (Nat.lt_of_lt_of_le hi h.size) (fun t => hn (hS i hi t))).trans (h.block i hi hn)⟩
theorem Kept.ofBelow {S : Nat → Prop} {w w' : World} (h : Below w.heap.size w w') : Kept S w w' := ⟨h.os, h.tape, h.output, h.size, fun k hk _ => h.block k hk⟩
theorem Kept.ofGrown {w w' : World} {r : Option Nat} (h : w.grownBy w' r) : Kept (fun k => some k = r) w w' := ⟨h.os, h.tape, h.output, h.size, fun k hk hn => h.block k hk hn⟩
theorem Kept.below {S : Nat → Prop} {w w' : World} {B : Nat} (h : Kept S w w') (hB : B ≤ w.heap.size) (hS : ∀ k, k < B → ¬ S k) : Below B w w' := ⟨h.os, h.tape, h.output, h.size, fun k hk => h.block k (by omega) (hS k hk)⟩
theorem Kept.owns {S : Nat → Prop} {w w' : World} (h : Kept S w w') {base : Nat} {e : TypeId} {size : Nat} {v : Value} {n : Nat} {xs : List Value} (ho : w.ownsRow base e size v n xs) (hS : ∀ k, v.ownBlock = some k → ¬ S k) : w'.ownsRow base e size v n xs := by
  refine ⟨ho.1, ?_⟩
  rcases ho.2 with hn | ⟨g, cap, cur, rfl, hbg, hgg, rest⟩
  · exact .inl hn
  · exact .inr ⟨g, cap, cur, rfl, hbg, (h.block g (Array.getElem?_eq_some_iff.1 hgg).1 (hS g rfl)).trans hgg, rest⟩
theorem Kept.sees {S : Nat → Prop} {w w' : World} (h : Kept S w w') {b off n : Nat} {f : Nat → Int} (hs : SeesB w (some ⟨b, off, none⟩) n f) (hS : ¬ S b) : SeesB w' (some ⟨b, off, none⟩) n f := by
  intro i hi
  obtain ⟨b', off', ha, hlt, hc⟩ := hs i hi
  cases ha
  exact ⟨b, off, rfl, Nat.lt_of_lt_of_le hlt h.size, (World.cell?_of_block (h.block b hlt hS)).trans hc⟩
/-- The slice v' lies in v's row or in a new one. -/
def OwnNew (w : World) (v v' : Value) : Prop := ∀ k, v'.ownBlock = some k → v.ownBlock = some k ∨ w.heap.size ≤ k
theorem OwnNew.refl (w : World) (v : Value) : OwnNew w v v := fun _ h => .inl h

/-- What an append to v leaves. -/
structure Grew (base : Nat) (w w' : World) (v v' : Value) (n : Nat) (xs : List Value) : Prop where
  own : w'.ownsRow base 5 1 v' n xs
  kept : Kept (fun k => v.ownBlock = some k) w w'
  new : OwnNew w v v'
theorem Grew.start {base : Nat} {w : World} {v : Value} {n : Nat} {xs : List Value} (h : w.ownsRow base 5 1 v n xs) : Grew base w w v v n xs := ⟨h, Kept.refl _ _, OwnNew.refl _ _⟩
/-- One append more, with blocks laid ahead of it. -/
theorem Grew.app {base : Nat} {w w1 w2 w3 : World} {v v1 v2 : Value} {n m : Nat} {xs ys : List Value} (h : Grew base w w1 v v1 n xs) (hb : Below w1.heap.size w1 w2) (ho : w3.ownsRow base 5 1 v2 m ys) (hg : w2.grownBy w3 v1.ownBlock) (hat : v2.ownBlock = v1.ownBlock ∨ v2.ownBlock = some w2.heap.size) : Grew base w w3 v v2 m ys := by
  refine ⟨ho, (h.kept.trans (Kept.ofBelow (S := fun _ => False) hb) (fun _ _ f => f.elim)).trans (Kept.ofGrown hg) ?_, ?_⟩
  · intro k hk e
    rcases h.new k e.symm with e | e
    · exact e
    · omega
  · intro k e
    rcases hat with e2 | e2
    · exact h.new k (e2.symm.trans e)
    · have := e2.symm.trans e
      have := h.kept.size
      have := hb.size
      right
      simp at *
      omega

theorem u64_and127 (n : Nat) (h : n < 18446744073709551616) : bits .and .u64 (n : Int) 127 = ((n % 128 : Nat) : Int) := by
  have h := (bits_nat .u64 64 (by decide) (fun n h0 h1 => by rw [IntKind.wrap_u64]; omega) n 127 (by simpa using h) (by decide)).1
  rw [show ((127 : Nat) : Int) = 127 from rfl] at h
  rw [h]
  congr 1
  exact Nat.and_two_pow_sub_one_eq_mod n 7

set_option maxRecDepth 100000 in
set_option maxHeartbeats 3200000 in
theorem appendUvarint_any (base n x : Nat) (v : Value) (xs : List Value) (w : World) (hx : x ≤ 1048576) (hn : n ≤ 1048576) (hb : base ≤ w.heap.size) (ho : w.ownsRow base 5 1 v n xs) :
    Calls Try.prog 35 #[v, .int .u64 x] w fun e w' => ∃ v', e = .returned v' ∧ Grew base w w' v v' (n + (Lib.uvarint x).length) (xs ++ Lib.byteCells (Lib.uvarint x)) := by
  obtain ⟨i5, hi5, hz5, hsz5, hby5⟩ := info_parts info5
  have hlen := Lib.uvarint_length64 (show x < 18446744073709551616 by omega)
  have HO := hide ho
  clear ho
  go_enter Try.func35, Try.ntmps35
  go_wp2
  go_loopw [0, 1] (fun vb vx wr => ∃ (y : Nat) (pre : List UInt8), vx = .int .u64 y ∧ y ≤ x ∧ Lib.uvarint x = pre ++ Lib.uvarint y ∧ Grew base w wr v vb (n + pre.length) (xs ++ Lib.byteCells pre)) (fun _ vx _ => (intOf vx).toNat)
  case atStart => exact ⟨x, [], rfl, Nat.le_refl _, rfl, Grew.start (by simpa [Lib.byteCells] using HO.out)⟩
  case round =>
    obtain ⟨y, pre, rfl, hy, hsplit, hG⟩ := hrel
    have HG := hide hG
    have HSP := hide hsplit
    have hpl : pre.length + (Lib.uvarint y).length ≤ 10 := by
      have h2 := congrArg List.length hsplit
      rw [List.length_append] at h2
      omega
    have hyp := Lib.uvarint_pos y
    have hsz : w.heap.size ≤ wr.heap.size := hG.kept.size
    clear hG hsplit
    by_cases h128 : 128 ≤ y
    · have hor : bits .or .u8 ((y : Int) % 256) 128 = ((y % 128 + 128 : Nat) : Int) := by
        rw [Lib.u8_or128_any _ (by omega) (by omega)]
        omega
      go_wp2_with (at_builtin; refine wpList_append_own_at _ rfl _ _ 22 rfl base 5 i5 _ 1 1 Try.underlying22 hi5 hz5 hsz5 hby5 rfl (by omega) _ (n + pre.length) (xs ++ Lib.byteCells pre) rfl (HG.out.own.alloc _) ⟨wr.heap.size, 0, none⟩ 1 1 [Value.int .u8 ((y % 128 + 128 : Nat) : Int)] rfl rfl ?c1 ?c2 ?c3 ?c4 ?c5 ?_)
      case c1 =>
        intro j u hj
        match j, hj with
        | 0, hj => simp at hj; subst hj; simp [Addr.add]
      case c2 => intro u hu; simp at hu; subst hu; rfl
      case c3 => unfold maxLen; omega
      case c4 => omega
      case c5 => simp; omega
      intro v' w1 hown' hgrow _ hat
      have HN := hide (HG.out.app ((Below.refl _ _).alloc (Nat.le_refl _) _) hown' hgrow (by simpa using hat))
      clear hown' hgrow hat
      go_wp2
      go_roundw
      case rel =>
        refine ⟨y / 128, pre ++ [(y % 128 + 128).toUInt8], by go_num, by omega, by rw [HSP.out, Lib.uvarint_big h128]; simp, ?_⟩
        have ec : ((y % 128 + 128 : Nat) : Int) = (y : Int) % 128 + 128 := by omega
        have hq := HN.out
        rw [Lib.byteCells_snoc pre (by omega), List.length_append, List.length_singleton, ← Nat.add_assoc, ← List.append_assoc]
        simpa [ec] using hq
      case measure => simp [intOf]; omega
    · have hsm : Lib.uvarint y = [y.toUInt8] := Lib.uvarint_small (by omega)
      have HSM := hide hsm
      clear hsm
      go_wp2_with (at_builtin; refine wpList_append_own_at _ rfl _ _ 22 rfl base 5 i5 _ 1 1 Try.underlying22 hi5 hz5 hsz5 hby5 rfl (by omega) _ (n + pre.length) (xs ++ Lib.byteCells pre) rfl (HG.out.own.alloc _) ⟨wr.heap.size, 0, none⟩ 1 1 [Value.int .u8 (y : Int)] rfl rfl ?c1 ?c2 ?c3 ?c4 ?c5 ?_)
      case c1 =>
        intro j u hj
        match j, hj with
        | 0, hj => simp at hj; subst hj; simp [Addr.add]
      case c2 => intro u hu; simp at hu; subst hu; rfl
      case c3 => unfold maxLen; omega
      case c4 => omega
      case c5 => simp; omega
      intro v' w1 hown' hgrow _ hat
      have HN := hide (HG.out.app ((Below.refl _ _).alloc (Nat.le_refl _) _) hown' hgrow (by simpa using hat))
      clear hown' hgrow hat
      go_wp2
      go_ret
      refine ⟨v', rfl, ?_⟩
      have hq := HN.out
      rw [HSP.out, HSM.out, Lib.byteCells_snoc pre (by omega), List.length_append, List.length_singleton, ← Nat.add_assoc, ← List.append_assoc]
      simpa using hq

set_option maxRecDepth 100000 in
set_option maxHeartbeats 3200000 in
theorem zzUvarint_any (base n x : Nat) (v : Value) (xs : List Value) (w : World) (hx : x ≤ 1048576) (hn : n ≤ 1048576) (hb : base ≤ w.heap.size) (ho : w.ownsRow base 5 1 v n xs) :
    Calls Try.prog 18 #[v, .int .u64 x] w fun e w' => ∃ v', e = .returned v' ∧ Grew base w w' v v' (n + (Lib.uvarint x).length) (xs ++ Lib.byteCells (Lib.uvarint x)) := by
  obtain ⟨i5, hi5, hz5, hsz5, hby5⟩ := info_parts info5
  have hlen := Lib.uvarint_length64 (show x < 18446744073709551616 by omega)
  have HO := hide ho
  clear ho
  go_enter Try.func18, Try.ntmps18
  go_wp2
  go_loopw [0, 1] (fun vb vx wr => ∃ (y : Nat) (pre : List UInt8), vx = .int .u64 y ∧ y ≤ x ∧ Lib.uvarint x = pre ++ Lib.uvarint y ∧ Grew base w wr v vb (n + pre.length) (xs ++ Lib.byteCells pre)) (fun _ vx _ => (intOf vx).toNat)
  case atStart => exact ⟨x, [], rfl, Nat.le_refl _, rfl, Grew.start (by simpa [Lib.byteCells] using HO.out)⟩
  case round =>
    obtain ⟨y, pre, rfl, hy, hsplit, hG⟩ := hrel
    have HG := hide hG
    have HSP := hide hsplit
    have hpl : pre.length + (Lib.uvarint y).length ≤ 10 := by
      have h2 := congrArg List.length hsplit
      rw [List.length_append] at h2
      omega
    have hyp := Lib.uvarint_pos y
    have hsz : w.heap.size ≤ wr.heap.size := hG.kept.size
    clear hG hsplit
    by_cases h128 : 128 ≤ y
    · have han : bits .and .u64 (y : Int) 127 = ((y % 128 : Nat) : Int) := u64_and127 y (by omega)
      have hor : bits .or .u8 ((y : Int) % 128) 128 = ((y % 128 + 128 : Nat) : Int) := by
        rw [Lib.u8_or128_any _ (by omega) (by omega)]
        omega
      go_wp2_with (at_builtin; refine wpList_append_own_at _ rfl _ _ 22 rfl base 5 i5 _ 1 1 Try.underlying22 hi5 hz5 hsz5 hby5 rfl (by omega) _ (n + pre.length) (xs ++ Lib.byteCells pre) rfl (HG.out.own.alloc _) ⟨wr.heap.size, 0, none⟩ 1 1 [Value.int .u8 ((y % 128 + 128 : Nat) : Int)] rfl rfl ?c1 ?c2 ?c3 ?c4 ?c5 ?_)
      case c1 =>
        intro j u hj
        match j, hj with
        | 0, hj => simp at hj; subst hj; simp [Addr.add]
      case c2 => intro u hu; simp at hu; subst hu; rfl
      case c3 => unfold maxLen; omega
      case c4 => omega
      case c5 => simp; omega
      intro v' w1 hown' hgrow _ hat
      have HN := hide (HG.out.app ((Below.refl _ _).alloc (Nat.le_refl _) _) hown' hgrow (by simpa using hat))
      clear hown' hgrow hat
      go_wp2
      go_roundw
      case rel =>
        refine ⟨y / 128, pre ++ [(y % 128 + 128).toUInt8], by go_num, by omega, by rw [HSP.out, Lib.uvarint_big h128]; simp, ?_⟩
        have ec : ((y % 128 + 128 : Nat) : Int) = (y : Int) % 128 + 128 := by omega
        have hq := HN.out
        rw [Lib.byteCells_snoc pre (by omega), List.length_append, List.length_singleton, ← Nat.add_assoc, ← List.append_assoc]
        simpa [ec] using hq
      case measure => simp [intOf]; omega
    · have hsm : Lib.uvarint y = [y.toUInt8] := Lib.uvarint_small (by omega)
      have HSM := hide hsm
      clear hsm
      go_wp2_with (at_builtin; refine wpList_append_own_at _ rfl _ _ 22 rfl base 5 i5 _ 1 1 Try.underlying22 hi5 hz5 hsz5 hby5 rfl (by omega) _ (n + pre.length) (xs ++ Lib.byteCells pre) rfl (HG.out.own.alloc _) ⟨wr.heap.size, 0, none⟩ 1 1 [Value.int .u8 (y : Int)] rfl rfl ?c1 ?c2 ?c3 ?c4 ?c5 ?_)
      case c1 =>
        intro j u hj
        match j, hj with
        | 0, hj => simp at hj; subst hj; simp [Addr.add]
      case c2 => intro u hu; simp at hu; subst hu; rfl
      case c3 => unfold maxLen; omega
      case c4 => omega
      case c5 => simp; omega
      intro v' w1 hown' hgrow _ hat
      have HN := hide (HG.out.app ((Below.refl _ _).alloc (Nat.le_refl _) _) hown' hgrow (by simpa using hat))
      clear hown' hgrow hat
      go_wp2
      go_ret
      refine ⟨v', rfl, ?_⟩
      have hq := HN.out
      rw [HSP.out, HSM.out, Lib.byteCells_snoc pre (by omega), List.length_append, List.length_singleton, ← Nat.add_assoc, ← List.append_assoc]
      simpa using hq

end Go.Proofs.Qxb6616170a
