import Derived.Test.Qxb6614952aOpen
import Derived.Test.Qxb6614952aLaw5
namespace Go.Proofs.Qxb6614952a
open Go.ChangeShapes Go.WideShapes Go.ChangeAt Go.RowKit
open Go.ChangeMaps (open_string shut_string)
set_option linter.unusedVariables false

set_option maxRecDepth 100000 in
theorem lagLifted (os : Os) (started : os.Started) (H : Type) (enc : TypeId × Value → H) :
    ReturnsInHanded {} Try.checked os 5 .any (Rows.fnLaggingInsertAnywhereSpec.pre6 enc Try.prog Try.f5 Rows.fnLaggingInsertAnywhereRow.domain false) (Rows.fnLaggingInsertAnywhereSpec.post enc Try.prog Try.f5 false true false false) := by
  refine returnsInHanded_of_change (C := Try.checked) own started (by kernel_rfl) Try.func5
    (ChangeSpec.witness6 (enc := enc) (C := Try.checked) false ⟨#[], #[.slice none 0 0, .int .i64 0, .agg #[.string ByteArray.empty, .string ByteArray.empty, .int .i64 0, .bool false, .int .u64 0, .int .u64 0, .bool false, .bool false, .bool false, .bool false, .bool false, .bool false, .int .u64 0, .slice none 0 0, .bool false], .agg #[.int .u64 0, .int .u64 0, .bool false, .bool false, .bool false, .bool false, .bool false, .bool false, .int .u64 0, .slice none 0 0]], []⟩ 8 (by kernel_rfl) (by kernel_rfl) (by kernel_rfl) (by kernel_rfl)) ?_
  intro W base args ds gs before hval0 hW hcnd _
  have hval : ∀ (j : Nat) t v, Try.f5.params[j]? = some t → args[j]? = some v → Value.okWide Try.prog W .any base t v := hval0
  have hW' := hW
  obtain ⟨p, q, hA0, hV, rfl, hfz, hnd⟩ := hW
  have hA : DataW.TrodAll enc Try.prog W 0 (fun _ => true) true Try.f5.params.toList args.toList ds p := hA0
  rw [Try.params5] at hA hval
  obtain ⟨v0, vs0, d0, ds0, p0, q0, hargs, rfl, rfl, h0, r0⟩ := trodAll_cons hA
  obtain ⟨v1, vs1, d1, ds1, p1, q1, rfl, rfl, rfl, h1, r1⟩ := trodAll_cons r0
  obtain ⟨v2, vs2, d2, ds2, p2, q2, rfl, rfl, rfl, h2, r2⟩ := trodAll_cons r1
  obtain ⟨v3, vs3, d3, ds3, p3, q3, rfl, rfl, rfl, h3, r3⟩ := trodAll_cons r2
  obtain ⟨rfl, rfl, rfl⟩ := trodAll_nil r3
  obtain rfl : args = #[v0, v1, v2, v3] := by cases args; simp_all
  obtain ⟨rfl, rfl⟩ := trodVars_none hV
  obtain ⟨a0, len0, cap0, rfl⟩ := okWide_slice Try.underlying22 (hval 0 22 v0 rfl rfl)
  have k0 := h0
  have lt0 : ∀ x ∈ p0, x.block < W.heap.size := by obtain ⟨m, hm⟩ := k0; exact DataW.trod_lt m _ _ _ hm
  obtain ⟨w00, w01, w02, rs, w0⟩ : len0 ≤ cap0 ∧ cap0 ≤ maxLen ∧ (a0 = none → cap0 = 0) ∧ ∃ rs, Sees W a0 len0 rs := by
    obtain ⟨fuel, hf⟩ := h0
    exact reps_of_trod hf
  obtain ⟨a1, rfl, rfl, rfl, w1⟩ := open_int Try.underlying3 (hval 1 3 v1 rfl rfl) h1
  obtain ⟨cs2, rfl, hsz2⟩ := okWide_struct Try.underlying28 (hval 2 28 v2 rfl rfl)
  have k2 := h2
  have lt2 : ∀ x ∈ p2, x.block < W.heap.size := by obtain ⟨m, hm⟩ := k2; exact DataW.trod_lt m _ _ _ hm
  obtain ⟨x, hx, hcs⟩ : ∃ x : Rep, x.ok ∧ cs2 = x.val.cells := by
    obtain ⟨fuel, hf⟩ := h2
    obtain ⟨r, hr, _, hcs⟩ := rep_of_trod hf
    exact ⟨r, hr, Array.toList_inj.1 hcs⟩
  have hxv : Value.agg cs2 = x.val := by rw [hcs]; rfl
  obtain ⟨cs3, rfl, hsz3⟩ := okWide_struct Try.underlying26 (hval 3 26 v3 rfl rfl)
  have k3 := h3
  have lt3 : ∀ x ∈ p3, x.block < W.heap.size := by obtain ⟨m, hm⟩ := k3; exact DataW.trod_lt m _ _ _ hm
  obtain ⟨nw, hnw, hcs3⟩ : ∃ nw : Rep, nw.vlen ≤ maxLen ∧ cs3 = nw.rec_.cells := by
    obtain ⟨fuel, hf⟩ := h3
    obtain ⟨seq, vid, deleted, clean, settled, away, short, held, taken, va, vlen, vcap, hcs, hv⟩ := rec_of_trod hf
    exact ⟨⟨ByteArray.empty, ByteArray.empty, 0, false, seq, vid, deleted, clean, settled, away, short, held, taken, va, vlen, vcap, false⟩, hv, Array.toList_inj.1 hcs⟩
  have hnv : Value.agg cs3 = nw.rec_ := by rw [hcs3]; rfl
  clear hA0 hval0
  have hwalk := law5_any a0 len0 cap0 rs a1 x nw W (Nat.le_trans w00 w01) w00 w01 w02 w0 hx hnw
  rw [← hxv, ← hnv] at hwalk
  refine hwalk.mono fun e W' ⟨he, bel⟩ => ?_
  subst he
  exact ⟨_, rfl, _, _, _, [], _, [], hW', trodAll_mk1 (shut_bool Try.underlying4 _), (trodAll_cons_mk (Below.trod laidOut (by kernel_rfl) (of_decide_eq_true (by kernel_rfl)) k0 bel lt0) (trodAll_cons_mk (shut_int Try.underlying3 w1) (trodAll_cons_mk (Below.trod laidOut (by kernel_rfl) (of_decide_eq_true (by kernel_rfl)) k2 bel lt2) (trodAll_cons_mk (Below.trod laidOut (by kernel_rfl) (of_decide_eq_true (by kernel_rfl)) k3 bel lt3) trodAll_mk0)))), rfl, bel.frame _, fun h => by cases h⟩

theorem lagOver : Rows.fnLaggingInsertAnywhereRow.holds Try.pinned (OpenSpec.ofChange Rows.fnLaggingInsertAnywhereSpec) :=
  OpenClaim.holds_of_wide 5 Try.f5 rfl rfl rfl rfl rfl rfl rfl ⟨rfl, rfl, rfl, rfl, rfl⟩ rfl rfl rfl rfl rfl (by kernel_rfl) Try.func5 (by kernel_rfl)
    (of_decide_eq_true (by kernel_rfl)) (by unfold Func.isWrapper; first | (rw [if_pos (by decide +kernel)]; kernel_rfl) | (rw [if_neg (by decide +kernel)]; exact ⟨rfl, rfl⟩))
    (fun os started H enc _ => lagLifted os started H enc)

theorem lagging_proved : Rows.FnLaggingInsertAnywhereSaid := lagOver
end Go.Proofs.Qxb6614952a
