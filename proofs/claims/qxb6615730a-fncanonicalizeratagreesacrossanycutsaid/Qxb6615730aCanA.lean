import Derived.Test.Qxb6615730aRows
import Derived.WalkKit
import Derived.WalkSpells
import Derived.WalkLawsBesides
import Derived.Deep.QuietTactic
import Derived.BigQuiet
import Derived.Deep.OwnRows
namespace Go.Proofs.Qxb6615730a.Can
open Go.RowKit

theorem hide {p : Prop} (h : p) : Hid p := h
theorem rowIs_below {w w' : World} {b : Nat} {t : TypeId} {n : Nat} {f : Nat → Value} (h : w.rowIs b t n f) (hb : Below w.heap.size w w') : w'.rowIs b t n f :=
  h.of_block (hb.block b h.lt)

/-- The slice a, n holds the bytes f 0 .. f (n - 1). -/
def SeesB (w : World) (a : Option Addr) (n : Nat) (f : Nat → Int) : Prop :=
  ∀ i, i < n → ∃ b off, a = some ⟨b, off, none⟩ ∧ b < w.heap.size ∧ w.cell? ⟨b, off + i, none⟩ = some (.int .u8 (f i))
theorem SeesB.below {w w' : World} {a : Option Addr} {n : Nat} {f : Nat → Int} (h : SeesB w a n f) (hb : Below w.heap.size w w') : SeesB w' a n f := by
  intro i hi
  obtain ⟨b, off, ha, hlt, hc⟩ := h i hi
  exact ⟨b, off, ha, Nat.lt_of_lt_of_le hlt hb.size, (hb.cell (p := ⟨b, off + i, none⟩) hlt).trans hc⟩
theorem SeesB.take {w : World} {a : Option Addr} {n : Nat} {f : Nat → Int} (h : SeesB w a n f) {k : Nat} (hk : k ≤ n) : SeesB w a k f := fun i hi => h i (by omega)
theorem SeesB.empty (w : World) (a : Option Addr) (f : Nat → Int) : SeesB w a 0 f := fun i hi => absurd hi (Nat.not_lt_zero i)
theorem SeesB.drop {w : World} {a : Option Addr} {n : Nat} {f : Nat → Int} (h : SeesB w a n f) (k : Nat) : SeesB w (Option.map (fun x => x.add k) a) (n - k) (fun i => f (k + i)) := by
  intro i hi
  obtain ⟨b, off, ha, hlt, hc⟩ := h (k + i) (by omega)
  subst ha
  refine ⟨b, off + k, by simp [Addr.add_lit], hlt, ?_⟩
  rw [Nat.add_assoc]
  exact hc

/-- Is the byte at p, among n, the byte b? -/
def atB (f : Nat → Int) (n p : Nat) (b : Int) : Bool := decide (p < n) && (f p == b)
theorem atB_in {f : Nat → Int} {n p : Nat} {b : Int} (h : p < n) : atB f n p b = (f p == b) := by simp [atB, h]
theorem atB_out {f : Nat → Int} {n p : Nat} {b : Int} (h : ¬ p < n) : atB f n p b = false := by simp [atB, h]

set_option maxHeartbeats 400000 in
theorem at_any (g : Nat) (a : Option Addr) (n cap p : Nat) (b : Int) (f : Nat → Int) (w : World) (_hn : n ≤ 1048576) (hp : p ≤ 1048576) (h0 : w.cell? ⟨g, 0, none⟩ = some (.slice a n cap)) (h1 : w.cell? ⟨g, 1, none⟩ = some (.int .i64 p)) (hs : SeesB w a n f) :
    Calls Try.prog 13 #[.pointer (some ⟨g, 0, none⟩), .int .u8 b] w fun e w' => e = .returned (.bool (atB f n p b)) ∧ Below w.heap.size w w' := by
  have HS := hide hs
  clear hs
  by_cases c : p < n
  · rw [atB_in c]
    obtain ⟨bb, off, ha, hlt, hc⟩ := HS.out p c
    subst ha
    have c' : (p : Int) < (n : Int) := by omega
    have hp0 : (0 : Int) ≤ (p : Int) := by omega
    go_enter Try.func13, Try.ntmps13
    go_wp2
    go_quiet (fail)
    go_wp2
    go_ret
    exact ⟨rfl, below_drewN (Below.refl _ _) _⟩
  · rw [atB_out c]
    have c' : decide ((p : Int) < (n : Int)) = false := by simp; omega
    go_enter Try.func13, Try.ntmps13
    go_wp2
    go_quiet (fail)
    go_wp2
    go_ret
    exact ⟨rfl, below_drewN (Below.refl _ _) _⟩

set_option maxHeartbeats 400000 in
theorem zzAt_any (a : Option Addr) (n cap p : Nat) (b : Int) (f : Nat → Int) (w : World) (hn : n ≤ 1048576) (hp : p ≤ 1048576) (hs : SeesB w a n f) :
    Calls Try.prog 8 #[.slice a n cap, .int .i64 p, .int .u8 b] w fun e w' => e = .returned (.bool (atB f n p b)) ∧ Below w.heap.size w w' := by
  have HS := hide hs
  clear hs
  go_enter Try.func8, Try.ntmps8
  go_wp2_with (first | (go_at_call 10; go_in) | (go_at_call 11; go_in))
  refine (at_any w.heap.size a n cap p b f _ hn hp (by simp [go_sem]) (by simp [go_sem]) (HS.out.below ((Below.refl _ _).alloc (Nat.le_refl _) _))).mono ?_
  rintro e w1 ⟨rfl, hb⟩
  have HB : Hid (Below w.heap.size w w1) := ((Below.refl _ _).alloc (Nat.le_refl _) _).trans (hb.mono (by simp))
  clear hb
  go_wp2
  go_ret
  exact ⟨rfl, HB.out⟩

theorem info5 : (Try.prog.info? 5).map (fun i => (i.zero, i.size, i.bytes)) = some (some (.int .u8 0), 1, 1) := by kernel_rfl

set_option maxHeartbeats 400000 in
theorem clone_any (a : Option Addr) (n cap : Nat) (f : Nat → Int) (w : World) (hn : n ≤ 1048576) (ha : a = none → n = 0) (hs : SeesB w a n f) :
    Calls Try.prog 7 #[.slice a n cap] w fun e w' => ∃ a', e = .returned (.slice a' n n) ∧ SeesB w' a' n f ∧ Below w.heap.size w w' := by
  have HS := hide hs
  have HA := hide ha
  clear hs ha
  have hnil : ∀ (w : World) (a : Option Addr) (n c : Nat), (binOp .eql 22 (.slice a n c) (.slice none 0 0)).run Try.prog w = .ok (.bool a.isNone) w := fun w a n c => Lib.run_eql_slice_nil w _ _ a n c 0 0 Try.underlying22
  cases a with
  | none =>
    obtain rfl := HA.out rfl
    go_enter Try.func7, Try.ntmps7
    go_wp2
    go_ret
    exact ⟨none, rfl, SeesB.empty _ _ _, Below.refl _ _⟩
  | some ad =>
    have hmk := fun w => run_make_row' (P := Try.prog) 22 5 (.int .u8 0) 1 Try.underlying22 info5 rfl .i64 .i64 n (by omega) (by omega) w
    go_enter Try.func7, Try.ntmps7
    go_wp2
    clear hmk
    go_loopw [4] (fun i wr => ∃ k : Nat, k ≤ n ∧ i = .int .i64 k ∧ Below w.heap.size w wr ∧ ∃ ev, wr.rowIs w.heap.size 5 n ev ∧ ∀ j, j < k → ev j = .int .u8 (f j)) (fun i _ => n - (intOf i).toNat)
    case atStart => exact ⟨0, Nat.zero_le _, rfl, (Below.refl _ _).alloc (Nat.le_refl _) _, _, World.rowIs_made w (.int .u8 0) n 5, fun j hj => absurd hj (Nat.not_lt_zero j)⟩
    case round =>
      obtain ⟨k, hk, rfl, hb, ev, hev, hev1⟩ := hrel
      have HB := hide hb
      have HE := hide hev
      have HE1 := hide hev1
      by_cases hlt : k < n
      · obtain ⟨b, off, hab, hblt, hc⟩ := (HS.out.below hb) k hlt
        obtain rfl := Option.some.inj hab
        have hck := hev.cell hlt
        have hfz := hev.frozen k
        clear hb hev hev1 hab
        go_wp2
        go_roundw
        case rel =>
          refine ⟨k + 1, by omega, by go_num, HB.out.setCell (Nat.le_refl _) _, _, HE.out.set k _, fun j hj => ?_⟩
          by_cases e : j = k
          · subst e; simp
          · simp only [if_neg e]; exact HE1.out j (by omega)
        case measure => simp [intOf]; omega
      · obtain rfl : k = n := by omega
        clear hb hev hev1
        go_wp2
        go_ret
        refine ⟨some ⟨w.heap.size, 0, none⟩, rfl, fun i hi => ⟨w.heap.size, 0, rfl, HE.out.lt, ?_⟩, HB.out⟩
        rw [Nat.zero_add, HE.out.cell hi, HE1.out i hi]

set_option maxHeartbeats 400000 in
theorem zzBytes_any (a : Option Addr) (n cap : Nat) (p k b : Int) (w : World) (hn : n ≤ maxLen) :
    Calls Try.prog 6 #[.slice a n cap, .int .i64 p, .int .i64 k, .int .u8 b] w fun e w' => (e = .returned (.bool (decide (n ≤ 1048576)))) ∧ w' = w := by
  unfold maxLen at hn
  by_cases c : (1048576 : Int) < (n : Int)
  · have e : decide (n ≤ 1048576) = false := by simp; omega
    rw [e]
    go_enter Try.func6, Try.ntmps6
    go_wp2
    go_ret
    exact ⟨rfl, rfl⟩
  · have e : decide (n ≤ 1048576) = true := by simp; omega
    rw [e]
    go_enter Try.func6, Try.ntmps6
    go_wp2
    go_ret
    exact ⟨rfl, rfl⟩
end Go.Proofs.Qxb6615730a.Can
