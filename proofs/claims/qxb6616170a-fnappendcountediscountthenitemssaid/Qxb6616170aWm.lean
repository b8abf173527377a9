import Derived.Test.Qxb6616170aWl
namespace Go.Proofs.Qxb6616170a
open Go.RowKit

theorem three (w : World) (x y z : Value) (s t u : TypeId) : Below w.heap.size w (((w.alloc (.cells #[x] s)).alloc (.cells #[y] t)).alloc (.cells #[z] u)) ∧ (((w.alloc (.cells #[x] s)).alloc (.cells #[y] t)).alloc (.cells #[z] u)).heap.size = w.heap.size + 3 ∧
    (((w.alloc (.cells #[x] s)).alloc (.cells #[y] t)).alloc (.cells #[z] u)).heap[w.heap.size]? = some (.cells #[x] s) ∧ (((w.alloc (.cells #[x] s)).alloc (.cells #[y] t)).alloc (.cells #[z] u)).heap[w.heap.size + 1]? = some (.cells #[y] t) ∧
    (((w.alloc (.cells #[x] s)).alloc (.cells #[y] t)).alloc (.cells #[z] u)).heap[w.heap.size + 1 + 1]? = some (.cells #[z] u) := by
  refine ⟨(((Below.refl _ _).alloc (Nat.le_refl _) _).alloc (by simp) _).alloc (by simp; omega) _, by simp, ?_, ?_, ?_⟩
  · rw [Below.heap_alloc _ _ _ (by simp; omega), Below.heap_alloc _ _ _ (by simp), heap_alloc_new]
  · rw [Below.heap_alloc _ _ _ (by simp)]
    have := heap_alloc_new (w.alloc (.cells #[x] s)) (.cells #[y] t)
    simpa using this
  · have := heap_alloc_new ((w.alloc (.cells #[x] s)).alloc (.cells #[y] t)) (.cells #[z] u)
    simpa using this
theorem box_cell {w : World} {b : Nat} {x : Value} {t : TypeId} (h : w.heap[b]? = some (.cells #[x] t)) : w.cell? ⟨b, 0, none⟩ = some x := by
  rw [cell_of_row w b 0 #[x] t (0, 0) h]; rfl
theorem box_fz {w : World} {b : Nat} {x : Value} {t : TypeId} (h : w.heap[b]? = some (.cells #[x] t)) : w.frozen? ⟨b, 0, none⟩ = false := by
  simp [World.frozen?, h]

set_option maxRecDepth 20000 in
set_option maxHeartbeats 1600000 in
theorem appendCounted_any (base len b off n cap : Nat) (f : Nat → Int) (obj : Bool) (its : List It) (v0 : Value) (xs : List Value) (w : World) (hn : n ≤ 1048576) (hcap : n ≤ cap) (h0 : 0 < n) (hob : f 0 = if obj then 123 else 91) (hwh : Whole f n obj 0 its) (hil : its.length ≤ n) (hib : (itsB f its).length ≤ n)
    (hlen : len ≤ 1048576) (hb : base ≤ w.heap.size) (ho : w.ownsRow base 5 1 v0 len xs) (hs : SeesB w (some ⟨b, off, none⟩) n f) (hvb : v0.ownBlock ≠ some b) :
    Calls Try.prog 26 #[v0, .slice (some ⟨b, off, none⟩) n cap, .func (.func 27) #[] #[]] w fun e w' => ∃ v', e = .returned (.tuple #[v', .nilIface]) ∧
      w'.ownsRow base 5 1 v' (len + (Lib.uvarint its.length).length + (itsB f its).length) ((xs ++ Lib.byteCells (Lib.uvarint its.length)) ++ (itsB f its).map (Value.int .u8)) ∧ Kept (fun k => v0.ownBlock = some k) w w' := by
  have hbl : b < w.heap.size := by
    obtain ⟨b', off', ha', hlt, _⟩ := hs 0 h0
    cases ha'
    exact hlt
  have hmf : ∀ (fn : Fn) (first cap : Array Value) (w : World), (Instr.makeFunc fn first cap).run Try.prog w = .ok (.func fn first cap) w := fun _ _ _ _ => rfl
  obtain ⟨a0, l0, c0, hv0⟩ := owns_slice ho
  have hlt := ho.lt
  have HO := hide ho
  have HS := hide hs
  have HVB := hide hvb
  have HWH := hide hwh
  have HOB := hide hob
  have HLT := hide hlt
  clear ho hs hvb hwh hob hlt
  subst hv0
  obtain ⟨v0, hv0⟩ : ∃ v0, v0 = Value.slice a0 l0 c0 := ⟨_, rfl⟩
  obtain ⟨W, hW⟩ : ∃ W, W = (((w.alloc (.cells #[v0] 22)).alloc (.cells #[.func (.func 27) #[] #[]] 49)).alloc (.cells #[.int .i64 0] 3)) := ⟨_, rfl⟩
  obtain ⟨t1, t2, t3, t4, t5⟩ := three w v0 (.func (.func 27) #[] #[]) (.int .i64 0) 22 49 3
  rw [← hW] at t1 t2 t3 t4 t5
  rw [hv0] at hW
  rw [← hv0] at HO HVB HLT
  have HV0 := hide hv0
  have HW := hide hW
  have T1 := hide t1
  have T2 := hide t2
  have T3 := hide t3
  have T4 := hide t4
  have T5 := hide t5
  clear t1 t2 t3 t4 t5 hW hv0
  go_enter Try.func26, Try.ntmps26
  go_wp2_with fail
  rw [← HW.out]
  refine (each_count b off n cap (w.heap.size + 1 + 1) f obj its W hn hcap h0 HOB.out HWH.out hil (HS.out.below T1.out) (by omega) (box_cell T5.out) (box_fz T5.out)).mono ?_
  rintro e w1 ⟨rfl, hc1, hk1⟩
  have hz1 := hk1.size
  rw [T2.out] at hz1
  have b1 : w1.heap[w.heap.size]? = some (.cells #[v0] 22) := (hk1.block _ (by rw [T2.out]; omega) (by omega)).trans T3.out
  have b2 : w1.heap[w.heap.size + 1]? = some (.cells #[.func (.func 27) #[] #[]] 49) := (hk1.block _ (by rw [T2.out]; omega) (by omega)).trans T4.out
  have HC1 := hide hc1
  have HK1 := hide hk1
  have B1 := hide b1
  have B2 := hide b2
  have hcd : w1.cell? ⟨w.heap.size, 0, none⟩ = some (.slice a0 l0 c0) := by rw [box_cell b1, HV0.out]
  have HO1 : Hid (w1.ownsRow base 5 1 v0 len xs) := HK1.out.owns (ownsRow_below HO.out T1.out) (fun k hk e => by have := (HLT.out k hk).2; omega)
  have HS1 := hide (HK1.out.sees (HS.out.below T1.out) (by omega))
  clear hk1 b1 b2
  go_wp2_with fail
  rw [← HV0.out]
  refine (appendUvarint_any base len its.length v0 xs w1 (by omega) hlen (by omega) HO1.out).mono ?_
  rintro e w2 ⟨v1, rfl, hG⟩
  have HG := hide hG
  have hz2 := hG.kept.size
  have hvD : v0.ownBlock ≠ some w.heap.size := fun e => by have := (HLT.out _ e).2; omega
  have hvF : v0.ownBlock ≠ some (w.heap.size + 1) := fun e => by have := (HLT.out _ e).2; omega
  have b1 : w2.heap[w.heap.size]? = some (.cells #[v0] 22) := (hG.kept.block _ (by omega) hvD).trans B1.out
  have b2 : w2.heap[w.heap.size + 1]? = some (.cells #[.func (.func 27) #[] #[]] 49) := (hG.kept.block _ (by omega) hvF).trans B2.out
  have BB1 := hide b1
  have BB2 := hide b2
  have cd2 : w2.cell? ⟨w.heap.size, 0, none⟩ = some v0 := box_cell b1
  have fd2 : w2.frozen? ⟨w.heap.size, 0, none⟩ = false := box_fz b1
  have HVD := hide hvD
  have HVF := hide hvF
  obtain ⟨a1, l1, c1, hv1⟩ := owns_slice HG.out.own
  have HS2 := hide (HG.out.kept.sees HS1.out HVB.out)
  -- behind the store
  have hnw : ∀ k, k < w.heap.size + 2 → v0.ownBlock ≠ some k → v1.ownBlock ≠ some k := by
    intro k hk hn e
    rcases HG.out.new k e with e | e
    · exact hn e
    · omega
  have HNB := hide (hnw b (by omega) HVB.out)
  have HND := hide (hnw _ (by omega) HVD.out)
  have HNF := hide (hnw _ (by omega) HVF.out)
  have HNW := hide hnw
  clear hnw
  obtain ⟨w3, hw3⟩ : ∃ w3, w3 = w2.setCell ⟨w.heap.size, 0, none⟩ v1 := ⟨_, rfl⟩
  have hK3 : Kept (fun k => k = w.heap.size) w2 w3 := by rw [hw3]; exact Kept.setCell _ _ _
  have HC3 : Hid (w3.cell? ⟨w.heap.size, 0, none⟩ = some v1) := by rw [hw3]; exact World.cell?_setCell_same _ _ _ cd2
  have HF3 : Hid (w3.frozen? ⟨w.heap.size, 0, none⟩ = false) := by rw [hw3, World.frozen?_setCell]; exact fd2
  have HK3 := hide hK3
  have HO3 := hide (hK3.owns HG.out.own (fun k hk e => HND.out (by rw [← e]; exact hk)))
  have HS3 := hide (hK3.sees HS2.out (by omega))
  have HB3 := hide ((hK3.block (w.heap.size + 1) (by omega) (by omega)).trans BB2.out)
  have hz3 := hK3.size
  have HL1 := hide (Lib.uvarint_length64 (show its.length < 18446744073709551616 by omega))
  have HW3 := hide hw3
  clear hG b1 b2 hvD hvF hcd hc1 hK3 hw3
  have hz0 := hz1
  rw [hv1] at HW3
  have HV1 := hide hv1
  have hv1' := hv1
  clear hv1
  subst hv1'
  go_wp2_with fail
  rw [← HW3.out]
  refine (each_put base (len + (Lib.uvarint its.length).length) b off n cap (w.heap.size + 1) w.heap.size f obj its _ _ w3 hn hcap h0 HOB.out HWH.out hib (by have := HL1.out; omega) (by omega) HO3.out HS3.out (by omega) (by omega) (by omega) HNB.out HND.out HNF.out (box_cell HB3.out) HC3.out HF3.out).mono ?_
  rintro e w4 ⟨rfl, v', hJ⟩
  have HJ := hide hJ
  have cd4 := hJ.cell
  clear hJ cd2 fd2
  go_wp2
  go_ret2
  refine ⟨v', rfl, HJ.out.own, ?_⟩
  refine (((((Kept.ofBelow T1.out).trans HK1.out ?_).trans HG.out.kept ?_).trans HK3.out ?_).trans HJ.out.kept ?_)
  · intro k hk e; omega
  · intro k hk e; rw [← HV0.out]; exact e
  · intro k hk e; omega
  · intro k hk e
    rcases e with e | e
    · omega
    · rcases HG.out.new k e with e | e
      · rw [← HV0.out]; exact e
      · omega

set_option maxHeartbeats 800000 in
theorem zzAppendCounted_any (base len b off n cap : Nat) (f : Nat → Int) (obj : Bool) (its : List It) (v0 : Value) (xs : List Value) (w : World) (hn : n ≤ 1048576) (hcap : n ≤ cap) (h0 : 0 < n) (hob : f 0 = if obj then 123 else 91) (hwh : Whole f n obj 0 its) (hil : its.length ≤ n) (hib : (itsB f its).length ≤ n)
    (hlen : len ≤ 1048576) (hb : base ≤ w.heap.size) (ho : w.ownsRow base 5 1 v0 len xs) (hs : SeesB w (some ⟨b, off, none⟩) n f) (hvb : v0.ownBlock ≠ some b) :
    Calls Try.prog 19 #[v0, .slice (some ⟨b, off, none⟩) n cap] w fun e w' => ∃ v', e = .returned (.tuple #[v', .nilIface]) ∧
      w'.ownsRow base 5 1 v' (len + (Lib.uvarint its.length).length + (itsB f its).length) ((xs ++ Lib.byteCells (Lib.uvarint its.length)) ++ (itsB f its).map (Value.int .u8)) ∧ Kept (fun k => v0.ownBlock = some k) w w' := by
  have HO := hide ho
  have HS := hide hs
  have HVB := hide hvb
  have HWH := hide hwh
  have HOB := hide hob
  clear ho hs hvb hwh hob
  go_enter Try.func19, Try.ntmps19
  go_wp2_with fail
  refine (appendCounted_any base len b off n cap f obj its v0 xs w hn hcap h0 HOB.out HWH.out hil hib hlen hb HO.out HS.out HVB.out).mono ?_
  rintro e w1 ⟨v', rfl, h1, h2⟩
  have H1 := hide h1
  have H2 := hide h2
  clear h1 h2
  go_wp2
  go_ret2
  exact ⟨v', rfl, H1.out, H2.out⟩
end Go.Proofs.Qxb6616170a
