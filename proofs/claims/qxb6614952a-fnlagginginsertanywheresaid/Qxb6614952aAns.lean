import Derived.Test.Qxb6614952aSmall
import Derived.Deep.OwnRows
namespace Go.Proofs.Qxb6614952a
open Go.RowKit

theorem rowIs_below {w w' : World} {b : Nat} {t : TypeId} {n : Nat} {f : Nat → Value} (h : w.rowIs b t n f) (hb : Below w.heap.size w w') : w'.rowIs b t n f :=
  h.of_block (hb.block b h.lt)

/-- An error's cell: nil where the copy answered. -/
def IsErr (v : Value) (failed : Bool) : Prop := (failed = false ∧ v = .nilIface) ∨ (failed = true ∧ ∃ ad : Addr, v = .iface 86 (.pointer (some ad)))

theorem info73 : (Try.prog.info? 73).map (fun i => (i.zero, i.size, i.bytes)) = some (some .nilIface, 1, 16) := by kernel_rfl

set_option maxHeartbeats 800000 in
theorem zzAnswers_any (am ar : Option Addr) (lm cm lr cr : Nat) (bf n : Nat) (fs : Nat → Bool) (w : World) (hn : n ≤ 16777216) (hf : w.rowIs bf 4 n (fun i => .bool (fs i))) :
    Calls Try.prog 33 #[.slice am lm cm, .slice ar lr cr, .slice (some ⟨bf, 0, none⟩) n n] w fun e w' => ∃ g ev, w.heap.size ≤ g ∧ e = .returned (.agg #[.slice am lm cm, .slice ar lr cr, .slice (some ⟨g, 0, none⟩) n n]) ∧ w'.rowIs g 73 n ev ∧ (∀ i, i < n → IsErr (ev i) (fs i)) ∧ Below w.heap.size w w' := by
  have HF := hide hf
  clear hf
  have hmk := fun w => run_make_row' (P := Try.prog) 48 73 .nilIface 16 Try.underlying48 info73 rfl .i64 .i64 n (by omega) (by omega) w
  go_enter Try.func33, Try.ntmps33
  go_wp2
  clear hmk
  go_loopw [8] (fun i wr => ∃ k : Nat, k ≤ n ∧ i = .int .i64 k ∧ Below w.heap.size w wr ∧ (∃ f0, wr.rowIs w.heap.size 50 3 f0) ∧ ∃ ev, wr.rowIs (w.heap.size + 1) 73 n ev ∧ (∀ j, j < k → IsErr (ev j) (fs j)) ∧ (∀ j, k ≤ j → j < n → ev j = .nilIface)) (fun i _ => n - (intOf i).toNat)
  case atStart =>
    refine ⟨0, Nat.zero_le _, rfl, ((Below.refl _ _).alloc (Nat.le_refl _) _).alloc (by simp) _, ⟨fun _ => .slice none 0 0, ?_⟩, fun _ => .nilIface, ?_, fun j hj => absurd hj (Nat.not_lt_zero j), fun _ _ _ => rfl⟩
    · refine (World.rowIs_alloc w _ 50 _ ?_).alloc _
      intro i hi
      have : i = 0 ∨ i = 1 ∨ i = 2 := by simp at hi; omega
      rcases this with rfl | rfl | rfl <;> rfl
    · have := World.rowIs_made (w.alloc (.cells #[.slice none 0 0, .slice none 0 0, .slice none 0 0] 50)) .nilIface n 73
      simpa using this
  case round =>
    obtain ⟨k, hk, rfl, hb, ⟨f0, hf0⟩, ev, hev, hev1, hev2⟩ := hrel
    have HB := hide hb
    have HE := hide hev
    have HE1 := hide hev1
    have HE2 := hide hev2
    have H0 := hide hf0
    by_cases hlt : k < n
    · have hfk : wr.cell? ⟨bf, k, none⟩ = some (.bool (fs k)) := (rowIs_below HF.out hb).cell hlt
      clear hb hev1 hev2 hf0 hev
      cases hfsk : fs k
      · rw [hfsk] at hfk
        have HFK := hide hfsk
        clear hfsk
        go_wp2
        go_roundw
        case rel =>
          refine ⟨k + 1, by omega, by go_num, HB.out, ⟨f0, H0.out⟩, ev, HE.out, fun j hj => ?_, fun j hj hj' => HE2.out j (by omega) hj'⟩
          by_cases e : j = k
          · subst e; exact .inl ⟨HFK.out, HE2.out j (Nat.le_refl _) hlt⟩
          · exact HE1.out j (by omega)
        case measure => simp [intOf]; omega
      · rw [hfsk] at hfk
        have HFK := hide hfsk
        clear hfsk
        go_wp2_with fail
        refine (errorsNew_any _ _).mono ?_
        rintro e w2 ⟨rfl, hb2⟩
        have HE' := hide (rowIs_below HE.out hb2)
        have H0' := hide (rowIs_below H0.out hb2)
        have HB' : Hid (Below w.heap.size w w2) := HB.out.trans (hb2.mono HB.out.size)
        have hck := HE'.out.cell hlt
        have hfz := HE'.out.frozen k
        clear hb2 hfk
        go_wp2
        go_roundw
        case rel =>
          refine ⟨k + 1, by omega, by go_num, HB'.out.setCell (by simp) _, ⟨f0, H0'.out.setOther (by simp) _⟩, _, HE'.out.set k _, fun j hj => ?_, fun j hj hj' => ?_⟩
          · by_cases e : j = k
            · subst e
              exact .inr ⟨HFK.out, ⟨wr.heap.size, 0, none⟩, by simp⟩
            · simp only [if_neg e]; exact HE1.out j (by omega)
          · simp only [if_neg (show ¬ j = k by omega)]
            exact HE2.out j (by omega) hj'
        case measure => simp [intOf]; omega
    · obtain rfl : k = n := by omega
      have z0 := H0.out.cell (i := 0) (by omega)
      have z1 := H0.out.cell (i := 1) (by omega)
      have z2 := H0.out.cell (i := 2) (by omega)
      have y0 := H0.out.frozen 0
      have y1 := H0.out.frozen 1
      have y2 := H0.out.frozen 2
      clear hb hev1 hev2 hf0 hev
      go_wp2
      refine bodyPost_ret (v := .agg #[.slice am lm cm, .slice ar lr cr, .slice (some ⟨w.heap.size + 1, 0, none⟩) k k]) ?_ rfl ⟨w.heap.size + 1, ev, by omega, rfl, ?_, HE1.out, ?_⟩
      · simp [results, Try.results33, go_sem, z0, z1, z2]
      · exact ((HE.out.setOther (by simp) _).setOther (by simp) _).setOther (by simp) _
      · exact ((HB.out.setCell (by simp) _).setCell (by simp) _).setCell (by simp) _
end Go.Proofs.Qxb6614952a
