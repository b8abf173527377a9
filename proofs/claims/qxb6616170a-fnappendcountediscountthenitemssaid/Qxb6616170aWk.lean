import Derived.Test.Qxb6616170aWj
import Derived.Laws.OwnMore
namespace Go.Proofs.Qxb6616170a
open Go.RowKit

theorem wpList_append_none {P : Program} (w : World) {ops : Array Oper} {rest : List Oper} {o : Oper} {a : Act} {Q : Exit → Act → World → Prop}
    (hg : o.guard = none) (s x : Operand) (t : TypeId) (hop : o.op = Op.call { callee := Callee.builtin Builtin.append, args := #[s, x], argTypes := #[t, t] })
    (base : Nat) (e : TypeId) (i : TypeInfo) (size : Nat) (h1 : P.underlying t = some (.slice e)) (h2 : P.info? e = some i)
    (v : Value) (k : Nat) (xs : List Value) (hs : a.eval s = v) (hown : w.ownsRow base e size v k xs) (hx : a.eval x = .slice none 0 0)
    (hK : wpList P ops Q rest (a.put o.dst v) w) : wpList P ops Q (o :: rest) a w := by
  refine wpList_plain hg fun K hK' => ?_
  have hrun := run_append_owned_none (P := P) w base t o.type e i size h1 h2 _ k xs hown
  unfold Oper.wp
  simp [execOp, hop, resolve, invoke, builtin, hs, hx, hrun, Result.andThen]
  exact hK' _ _ hK

set_option maxHeartbeats 1600000 in
/-- ZZappendCounted's own closure appends an item's bytes. -/
theorem item_any (base len b off cap n k : Nat) (f : Nat → Int) (obj : Bool) (st ke vs ve : Nat) (v : Value) (xs : List Value) (w : World) (hn : n ≤ 1048576) (hX : ItemOK f n obj ⟨st, ke, vs, ve⟩ k) (hlen : len ≤ 5000000) (hb : base ≤ w.heap.size)
    (ho : w.ownsRow base 5 1 v len xs) (hs : SeesB w (some ⟨b, off, none⟩) n f) (hd : v.ownBlock ≠ some b) :
    Calls Try.prog 27 #[v, keyOf obj b off cap ⟨st, ke, vs, ve⟩, part b off cap vs ve] w fun e w' => ∃ v', e = .returned (.tuple #[v', .nilIface]) ∧ Grew base w w' v v' (len + (itB f ⟨st, ke, vs, ve⟩).length) (xs ++ (itB f ⟨st, ke, vs, ve⟩).map (Value.int .u8)) := by
  obtain ⟨i5, hi5, hz5, hsz5, hby5⟩ := info_parts info5
  obtain ⟨hb1, hb2, hb3, hb4, hb5⟩ := hX.bounds
  have hst := hX.st
  simp only at hb1 hb2 hb3 hb4 hb5 hst
  subst hst
  have HX := hide hX
  have HO := hide ho
  have HS := hide hs
  have HD := hide hd
  clear hX ho hs hd
  cases obj
  · obtain ⟨e1, e2⟩ := HX.out.arr rfl
    simp only at e1 e2
    have e1' := e1.symm
    have e2' := e2.symm
    clear e1 e2
    subst e1' e2'
    have eK : keyOf false b off cap ⟨st, st, st, ve⟩ = .slice none 0 0 := rfl
    have eV : part b off cap st ve = .slice (some ⟨b, off + st, none⟩) (ve - st) (cap - st) := rfl
    rw [eK, eV]
    clear eK eV
    go_enter Try.func27, Try.ntmps27
    go_wp2_with (at_builtin; first | refine wpList_append_none _ rfl _ _ 22 rfl base 5 i5 1 Try.underlying22 hi5 _ len xs rfl HO.out rfl ?_ | refine wpList_append_own_at _ rfl _ _ 22 rfl base 5 i5 _ 1 1 Try.underlying22 hi5 hz5 hsz5 hby5 rfl (by omega) _ len xs rfl HO.out ⟨b, off + st, none⟩ (ve - st) _ ((bys f st ve).map (Value.int .u8)) rfl ?h0 (HS.out.cells rfl st ve hb3) (bys_one f st ve) ?h1 ?h2 ?h3 ?_)
    case h0 => rw [List.length_map, bys_length]; omega
    case h1 => unfold maxLen; omega
    case h2 => omega
    case h3 => exact hb
    intro v' w' hown hg _ hat
    have HN := hide ((Grew.start HO.out).app (Below.refl _ _) hown hg hat)
    clear hown hg hat
    go_wp2
    go_ret2
    refine ⟨v', rfl, ?_⟩
    have e : itB f ⟨st, st, st, ve⟩ = bys f st ve := by simp [itB, bys_nil]
    rw [e, bys_length]
    exact HN.out
  · obtain ⟨e1, e2, e3, e4, e5⟩ := HX.out.key rfl
    simp only at e2
    have hlt := e2.bd.1
    clear e1 e2 e3 e4 e5
    have eK : keyOf true b off cap ⟨st, ke, vs, ve⟩ = .slice (some ⟨b, off + st, none⟩) (ke - st) (cap - st) := rfl
    have eV : part b off cap vs ve = .slice (some ⟨b, off + vs, none⟩) (ve - vs) (cap - vs) := rfl
    rw [eK, eV]
    clear eK eV
    go_enter Try.func27, Try.ntmps27
    go_wp2_with (at_builtin; refine wpList_append_own_at _ rfl _ _ 22 rfl base 5 i5 _ 1 1 Try.underlying22 hi5 hz5 hsz5 hby5 rfl (by omega) _ len xs rfl HO.out ⟨b, off + st, none⟩ (ke - st) _ ((bys f st ke).map (Value.int .u8)) rfl ?h0 (HS.out.cells rfl st ke (by omega)) (bys_one f st ke) ?h1 ?h2 ?h3 ?_)
    case h0 => rw [List.length_map, bys_length]; omega
    case h1 => unfold maxLen; omega
    case h2 => omega
    case h3 => exact hb
    intro v1 w1 hown hg _ hat
    have HN1 := hide ((Grew.start HO.out).app (Below.refl _ _) hown hg hat)
    have HS1 := hide (HN1.out.kept.sees HS.out HD.out)
    have hsz1 := hg.size
    clear hown hg hat
    obtain ⟨ys, hys⟩ : ∃ ys, ys = xs ++ (bys f st ke).map (Value.int .u8) := ⟨_, rfl⟩
    obtain ⟨m, hm⟩ : ∃ m, m = len + (ke - st) := ⟨_, rfl⟩
    rw [← hys, ← hm] at HN1
    have HYS := hide hys
    have HM := hide hm
    have hm2 : m ≤ 6500000 := by omega
    clear hys hm
    go_wp2_with (at_builtin; refine wpList_append_own_at _ rfl _ _ 22 rfl base 5 i5 _ 1 1 Try.underlying22 hi5 hz5 hsz5 hby5 rfl (by omega) _ m ys rfl HN1.out.own ⟨b, off + vs, none⟩ (ve - vs) _ ((bys f vs ve).map (Value.int .u8)) rfl ?h0 (HS1.out.cells rfl vs ve hb3) (bys_one f vs ve) ?h1 ?h2 ?h3 ?_)
    case h0 => rw [List.length_map, bys_length]; omega
    case h1 => unfold maxLen; omega
    case h2 => omega
    case h3 => omega
    intro v' w' hown hg _ hat
    have HN := hide (HN1.out.app (Below.refl _ _) hown hg hat)
    clear hown hg hat
    go_wp2
    go_ret2
    refine ⟨v', rfl, ?_⟩
    have hq := HN.out
    rw [HYS.out, HM.out, List.append_assoc] at hq
    rw [itB, List.length_append, List.map_append, bys_length, bys_length, ← Nat.add_assoc]
    exact hq
end Go.Proofs.Qxb6616170a
