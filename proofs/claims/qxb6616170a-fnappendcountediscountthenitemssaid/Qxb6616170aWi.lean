import Derived.Test.Qxb6616170aWh
namespace Go.Proofs.Qxb6616170a
open Go.RowKit

theorem SeesB.empty (w : World) (a : Option Addr) (f : Nat → Int) : SeesB w a 0 f := fun i hi => absurd hi (Nat.not_lt_zero i)
theorem SeesB.ofOwns {w : World} {base : Nat} {v : Value} {n : Nat} {xs : List Int} (hn : n = xs.length) (h : w.ownsRow base 5 1 v n (xs.map (Value.int .u8))) : ∃ a cap, v = .slice a n cap ∧ n ≤ cap ∧ SeesB w a n (fun i => xs.getD i 0) := by
  rcases h.2 with ⟨rfl, h0⟩ | ⟨g, cap, cur, rfl, hb, hg, hc, _⟩
  · subst h0
    exact ⟨none, 0, rfl, Nat.le_refl _, SeesB.empty _ _ _⟩
  · refine ⟨_, cap, rfl, hc, fun i hi => ⟨g, 0, rfl, (Array.getElem?_eq_some_iff.1 hg).1, ?_⟩⟩
    have hx := h.cells (g := g) rfl i (.int .u8 (xs.getD i 0)) (by rw [List.getElem?_map, List.getD_eq_getElem?_getD, List.getElem?_eq_getElem (by omega)]; rfl)
    have hadd : (⟨g, 0, none⟩ : Addr).add i = ⟨g, 0 + i, none⟩ := Addr.add_lit _ _ _
    rw [hadd] at hx
    exact hx
theorem owns_of_rowIs {w : World} {b base n : Nat} {f : Nat → Int} {ev : Nat → Value} (h : w.rowIs b 5 n ev) (he : ∀ j, j < n → ev j = .int .u8 (f j)) (hb : base ≤ b) (hn : n ≤ maxLen) : w.ownsRow base 5 1 (.slice (some ⟨b, 0, none⟩) n n) n ((bys f 0 n).map (Value.int .u8)) := by
  obtain ⟨c, hc, hs, hi⟩ := h
  refine ⟨by simp [bys], .inr ⟨b, n, c, rfl, hb, hc, Nat.le_refl _, hn, by omega, ?_⟩⟩
  apply List.ext_getElem?
  intro i
  by_cases h : i < n
  · rw [List.getElem?_take, if_pos (by omega), List.getElem?_map, bys_get f 0 n i (by omega), Nat.zero_add, Array.getElem?_toList, hi i h, he i h]
    rfl
  · rw [List.getElem?_take, if_neg (by omega), List.getElem?_eq_none (by simp [bys]; omega)]

set_option maxHeartbeats 800000 in
theorem clone_any (a : Option Addr) (n cap : Nat) (f : Nat → Int) (w : World) (hn : n ≤ 1048576) (ha : a = none → n = 0) (hs : SeesB w a n f) :
    Calls Try.prog 9 #[.slice a n cap] w fun e w' => ∃ a', e = .returned (.slice a' n n) ∧ w'.ownsRow w.heap.size 5 1 (.slice a' n n) n ((bys f 0 n).map (Value.int .u8)) ∧ Below w.heap.size w w' := by
  have HS := hide hs
  have HA := hide ha
  clear hs ha
  have hnil : ∀ (w : World) (a : Option Addr) (n c : Nat), (binOp .eql 22 (.slice a n c) (.slice none 0 0)).run Try.prog w = .ok (.bool a.isNone) w := fun w a n c => Lib.run_eql_slice_nil w _ _ a n c 0 0 Try.underlying22
  cases a with
  | none =>
    obtain rfl := HA.out rfl
    go_enter Try.func9, Try.ntmps9
    go_wp2
    go_ret
    exact ⟨none, rfl, World.ownsRow_nil _ _ _ _, Below.refl _ _⟩
  | some ad =>
    have hmk := fun w => run_make_row' (P := Try.prog) 22 5 (.int .u8 0) 1 Try.underlying22 info5 rfl .i64 .i64 n (by omega) (by omega) w
    go_enter Try.func9, Try.ntmps9
    go_wp2
    clear hmk
    go_loopw [4] (fun i wr => ∃ k : Nat, k ≤ n ∧ i = .int .i64 k ∧ Below w.heap.size w wr ∧ ∃ ev, wr.rowIs w.heap.size 5 n ev ∧ ∀ j, j < k → ev j = .int .u8 (f j)) (fun i _ => n - (intOf i).toNat)
    case atStart => exact ⟨0, Nat.zero_le _, rfl, (Below.refl _ _).alloc (Nat.le_refl _) _, _, World.rowIs_made w (.int .u8 0) n 5, fun j hj => absurd hj (Nat.not_lt_zero j)⟩
    case round =>
      obtain ⟨k, hk, rfl, hb, ev, hev, hev1⟩ := hrel
      have HB := hide hb
      have HE := hide hev
      have HE1 := hide hev1
      by_cases hlt : k < n
      · obtain ⟨b, off, hab, hblt, hc⟩ := (HS.out.below hb) k hlt
        obtain rfl := Option.some.inj hab
        have hck := hev.cell hlt
        have hfz := hev.frozen k
        clear hb hev hev1 hab
        go_wp2
        go_roundw
        case rel =>
          refine ⟨k + 1, by omega, by go_num, HB.out.setCell (Nat.le_refl _) _, _, HE.out.set k _, fun j hj => ?_⟩
          by_cases e : j = k
          · subst e; simp
          · simp only [if_neg e]; exact HE1.out j (by omega)
        case measure => simp [intOf]; omega
      · obtain rfl : k = n := by omega
        clear hb hev hev1
        go_wp2
        go_ret
        exact ⟨some ⟨w.heap.size, 0, none⟩, rfl, owns_of_rowIs HE.out HE1.out (Nat.le_refl _) (by unfold maxLen; omega), HB.out⟩

set_option maxHeartbeats 800000 in
theorem eq_any (a1 a2 : Option Addr) (n c1 c2 : Nat) (f : Nat → Int) (w : World) (hn : n ≤ 10000000) (h1 : SeesB w a1 n f) (h2 : SeesB w a2 n f) :
    Calls Try.prog 12 #[.slice a1 n c1, .slice a2 n c2] w fun e w' => e = .returned (.bool true) ∧ Drawn w w' := by
  have H1 := hide h1
  have H2 := hide h2
  clear h1 h2
  go_enter Try.func12, Try.ntmps12
  go_wp2
  go_loopw [5] (fun t wr => ∃ j m : Nat, j ≤ n ∧ t = .int .i64 j ∧ wr = w.drewN m) (fun t _ => n - (intOf t).toNat)
  case atStart => exact ⟨0, 0, Nat.zero_le _, rfl, rfl⟩
  case round =>
    obtain ⟨j, m, hj, rfl, rfl⟩ := hrel
    by_cases hlt : j < n
    · obtain ⟨b, off, ha, _, hc⟩ := H1.out j hlt
      obtain ⟨b', off', ha', _, hc'⟩ := H2.out j hlt
      subst ha ha'
      go_wp2
      go_quiet (fail)
      go_wp2
      go_roundw
      case rel => exact ⟨j + 1, _, by omega, by go_num, rfl⟩
      case measure => simp [intOf]; omega
    · go_wp2
      go_ret
      exact ⟨rfl, _, rfl⟩

def AnsB (n1 n2 : Nat) (e : Ending) : Prop := ∃ b, e = .returned (.bool b) ∧ (b = true → n1 + n2 ≤ 1048576)
/-- zzBytes answers, and nothing turns. -/
theorem bytes_any (a1 a2 : Option Addr) (n1 n2 c1 c2 : Nat) (w : World) (h1 : n1 ≤ maxLen) (h2 : n2 ≤ maxLen) :
    Calls Try.prog 16 #[.slice a1 n1 c1, .slice a2 n2 c2] w fun e w' => AnsB n1 n2 e ∧ w' = w := by
  unfold maxLen at h1 h2
  by_cases c1 : (1048576 : Int) < (n1 : Int)
  · go_enter Try.func16, Try.ntmps16
    go_wp2
    go_ret
    exact ⟨⟨false, rfl, fun e => by cases e⟩, rfl⟩
  by_cases c2 : (1048576 : Int) < (n2 : Int)
  · go_enter Try.func16, Try.ntmps16
    go_wp2
    go_ret
    exact ⟨⟨false, rfl, fun e => by cases e⟩, rfl⟩
  by_cases c3 : (1048576 : Int) < (n1 : Int) + (n2 : Int)
  · go_enter Try.func16, Try.ntmps16
    go_wp2
    go_ret
    exact ⟨⟨false, rfl, fun e => by cases e⟩, rfl⟩
  · go_enter Try.func16, Try.ntmps16
    go_wp2
    go_ret
    exact ⟨⟨true, rfl, fun _ => by omega⟩, rfl⟩
end Go.Proofs.Qxb6616170a
