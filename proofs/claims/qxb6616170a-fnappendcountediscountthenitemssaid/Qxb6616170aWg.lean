import Derived.Test.Qxb6616170aWe
namespace Go.Proofs.Qxb6616170a
open Go.RowKit

theorem value_all (a : Option Addr) (n cap : Nat) (f : Nat → Int) (hn : n ≤ 1048576) (hcap : n ≤ cap) :
    ∀ (m i : Nat) (w : World), n - i ≤ m → i ≤ n → SeesB w a n f → Calls Try.prog 25 #[.slice a n cap, .int .i64 i] w (Ans25 f n i w) := by
  intro m
  induction m with
  | zero => exact fun i w hm hi hs => value_from a n cap i f w hn hi hs fun h => absurd h (by omega)
  | succ m ih =>
    exact fun i w hm hi hs => value_from a n cap i f w hn hi hs fun h obj ho => container_from a n cap i f obj false w hn hcap h hs ho fun j w1 h1 h2 h3 => ih j w1 (by omega) h2 h3
theorem container_top (a : Option Addr) (n cap : Nat) (f : Nat → Int) (obj : Bool) (w : World) (hn : n ≤ 1048576) (hcap : n ≤ cap) (h0 : 0 < n) (hs : SeesB w a n f) (hob : f 0 = if obj then 123 else 91) :
    Calls Try.prog 17 #[.slice a n cap, .int .i64 0, .bool true] w (Ans17 f n 0 obj true w) :=
  container_from a n cap 0 f obj true w hn hcap h0 hs hob fun j w1 _ h2 h3 => value_all a n cap f hn hcap (n - j) j w1 (Nat.le_refl _) h2 h3
end Go.Proofs.Qxb6616170a
