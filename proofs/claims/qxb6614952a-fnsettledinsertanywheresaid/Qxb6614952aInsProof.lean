import Derived.Test.Qxb6614952aOpen
import Derived.Test.Qxb6614952aLaw3
namespace Go.Proofs.Qxb6614952a
open Go.ChangeShapes Go.WideShapes Go.ChangeAt Go.RowKit
open Go.ChangeMaps (open_string shut_string)
set_option linter.unusedVariables false

set_option maxRecDepth 100000 in
theorem insertLifted (os : Os) (started : os.Started) (H : Type) (enc : TypeId × Value → H) :
    ReturnsInHanded {} Try.checked os 3 .any (Rows.fnSettledInsertAnywhereSpec.pre6 enc Try.prog Try.f3 Rows.fnSettledInsertAnywhereRow.domain false) (Rows.fnSettledInsertAnywhereSpec.post enc Try.prog Try.f3 false true false false) := by
  refine returnsInHanded_of_change (C := Try.checked) own started (by kernel_rfl) Try.func3
    (ChangeSpec.witness6 (enc := enc) (C := Try.checked) false ⟨#[], #[.slice none 0 0, .int .i64 0, .agg #[.string ByteArray.empty, .string ByteArray.empty, .int .i64 0, .bool false, .int .u64 0, .int .u64 0, .bool false, .bool false, .bool false, .bool false, .bool false, .bool false, .int .u64 0, .slice none 0 0, .bool false]], []⟩ 8 (by kernel_rfl) (by kernel_rfl) (by kernel_rfl) (by kernel_rfl)) ?_
  intro W base args ds gs before hval0 hW hcnd _
  have hval : ∀ (j : Nat) t v, Try.f3.params[j]? = some t → args[j]? = some v → Value.okWide Try.prog W .any base t v := hval0
  have hW' := hW
  obtain ⟨p, q, hA0, hV, rfl, hfz, hnd⟩ := hW
  have hA : DataW.TrodAll enc Try.prog W 0 (fun _ => true) true Try.f3.params.toList args.toList ds p := hA0
  rw [Try.params3] at hA hval
  obtain ⟨v0, vs0, d0, ds0, p0, q0, hargs, rfl, rfl, h0, r0⟩ := trodAll_cons hA
  obtain ⟨v1, vs1, d1, ds1, p1, q1, rfl, rfl, rfl, h1, r1⟩ := trodAll_cons r0
  obtain ⟨v2, vs2, d2, ds2, p2, q2, rfl, rfl, rfl, h2, r2⟩ := trodAll_cons r1
  obtain ⟨rfl, rfl, rfl⟩ := trodAll_nil r2
  obtain rfl : args = #[v0, v1, v2] := by cases args; simp_all
  obtain ⟨rfl, rfl⟩ := trodVars_none hV
  obtain ⟨a0, len0, cap0, rfl⟩ := okWide_slice Try.underlying22 (hval 0 22 v0 rfl rfl)
  have k0 := h0
  have lt0 : ∀ x ∈ p0, x.block < W.heap.size := by obtain ⟨m, hm⟩ := k0; exact DataW.trod_lt m _ _ _ hm
  obtain ⟨w00, w01, w02, rs, w0⟩ : len0 ≤ cap0 ∧ cap0 ≤ maxLen ∧ (a0 = none → cap0 = 0) ∧ ∃ rs, Sees W a0 len0 rs := by
    obtain ⟨fuel, hf⟩ := h0
    exact reps_of_trod hf
  obtain ⟨a1, rfl, rfl, rfl, w1⟩ := open_int Try.underlying3 (hval 1 3 v1 rfl rfl) h1
  obtain ⟨cs2, rfl, hsz2⟩ := okWide_struct Try.underlying28 (hval 2 28 v2 rfl rfl)
  have k2 := h2
  have lt2 : ∀ x ∈ p2, x.block < W.heap.size := by obtain ⟨m, hm⟩ := k2; exact DataW.trod_lt m _ _ _ hm
  obtain ⟨x, hx, hcs⟩ : ∃ x : Rep, x.ok ∧ cs2 = x.val.cells := by
    obtain ⟨fuel, hf⟩ := h2
    obtain ⟨r, hr, _, hcs⟩ := rep_of_trod hf
    exact ⟨r, hr, Array.toList_inj.1 hcs⟩
  have hxv : Value.agg cs2 = x.val := by rw [hcs]; rfl
  clear hA0 hval0
  have hwalk := law3_any a0 len0 cap0 rs a1 x W (Nat.le_trans w00 w01) w00 w01 w02 w0 hx
  rw [← hxv] at hwalk
  refine hwalk.mono fun e W' ⟨he, bel⟩ => ?_
  subst he
  exact ⟨_, rfl, _, _, _, [], _, [], hW', trodAll_mk1 (shut_bool Try.underlying4 _), (trodAll_cons_mk (Below.trod laidOut (by kernel_rfl) (of_decide_eq_true (by kernel_rfl)) k0 bel lt0) (trodAll_cons_mk (shut_int Try.underlying3 w1) (trodAll_cons_mk (Below.trod laidOut (by kernel_rfl) (of_decide_eq_true (by kernel_rfl)) k2 bel lt2) trodAll_mk0))), rfl, bel.frame _, fun h => by cases h⟩

theorem insertOver : Rows.fnSettledInsertAnywhereRow.holds Try.pinned (OpenSpec.ofChange Rows.fnSettledInsertAnywhereSpec) :=
  OpenClaim.holds_of_wide 3 Try.f3 rfl rfl rfl rfl rfl rfl rfl ⟨rfl, rfl, rfl, rfl, rfl⟩ rfl rfl rfl rfl rfl (by kernel_rfl) Try.func3 (by kernel_rfl)
    (of_decide_eq_true (by kernel_rfl)) (by unfold Func.isWrapper; first | (rw [if_pos (by decide +kernel)]; kernel_rfl) | (rw [if_neg (by decide +kernel)]; exact ⟨rfl, rfl⟩))
    (fun os started H enc _ => insertLifted os started H enc)

theorem insert_proved : Rows.FnSettledInsertAnywhereSaid := insertOver
end Go.Proofs.Qxb6614952a
