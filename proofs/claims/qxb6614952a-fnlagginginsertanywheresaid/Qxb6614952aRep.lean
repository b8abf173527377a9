import Derived.Test.Qxb6614952aBegA
namespace Go.Proofs.Qxb6614952a
open Go.RowKit

/-- The call answers a bool; if true, the length is small. -/
def AnsLen (len : Nat) (e : Ending) : Prop := ∃ b : Bool, e = .returned (.bool b) ∧ (b = true → len ≤ 1048576)
theorem AnsLen.no (len : Nat) : AnsLen len (.returned (.bool false)) := ⟨false, rfl, fun h => by cases h⟩
theorem AnsLen.yes {len : Nat} (h : len ≤ 1048576) (b : Bool) : AnsLen len (.returned (.bool b)) := ⟨b, rfl, fun _ => h⟩

/-- The call answers a modest number. -/
def AnsNum (e : Ending) : Prop := ∃ n : Int, 0 ≤ n ∧ n ≤ 4294967296 ∧ e = .returned (.int .i64 n)
theorem AnsNum.mk (n : Int) (h0 : 0 ≤ n) (h1 : n ≤ 4294967296) : AnsNum (.returned (.int .i64 n)) := ⟨n, h0, h1, rfl⟩

/-- One Reply, field by field. -/
structure Rep where
  id : ByteArray
  addr : ByteArray
  state : Int
  retired : Bool
  seq : Int
  vid : Int
  deleted : Bool
  clean : Bool
  settled : Bool
  away : Bool
  short : Bool
  held : Bool
  taken : Int
  va : Option Addr
  vlen : Nat
  vcap : Nat
  failed : Bool

/-- A Reply's lengths fit. -/
def Rep.ok (r : Rep) : Prop := r.id.size ≤ maxLen ∧ r.addr.size ≤ maxLen ∧ r.vlen ≤ maxLen

/-- Cell j of a Reply. -/
def Rep.cell (r : Rep) : Nat → Value
  | 0 => .string r.id
  | 1 => .string r.addr
  | 2 => .int .i64 r.state
  | 3 => .bool r.retired
  | 4 => .int .u64 r.seq
  | 5 => .int .u64 r.vid
  | 6 => .bool r.deleted
  | 7 => .bool r.clean
  | 8 => .bool r.settled
  | 9 => .bool r.away
  | 10 => .bool r.short
  | 11 => .bool r.held
  | 12 => .int .u64 r.taken
  | 13 => .slice r.va r.vlen r.vcap
  | _ => .bool r.failed

abbrev Rep.val (r : Rep) : Value := .agg #[.string r.id, .string r.addr, .int .i64 r.state, .bool r.retired, .int .u64 r.seq, .int .u64 r.vid, .bool r.deleted, .bool r.clean, .bool r.settled, .bool r.away, .bool r.short, .bool r.held, .int .u64 r.taken, .slice r.va r.vlen r.vcap, .bool r.failed]
abbrev Rep.rec_ (r : Rep) : Value := .agg #[.int .u64 r.seq, .int .u64 r.vid, .bool r.deleted, .bool r.clean, .bool r.settled, .bool r.away, .bool r.short, .bool r.held, .int .u64 r.taken, .slice r.va r.vlen r.vcap]

/-- The slice a, len holds the Replies rs 0 .. rs (len - 1). -/
def Sees (w : World) (a : Option Addr) (len : Nat) (rs : Nat → Rep) : Prop :=
  ∀ i, i < len → (rs i).ok ∧ ∃ b off, a = some ⟨b, off, none⟩ ∧ b < w.heap.size ∧ ∀ j, j < 15 → w.cell? ⟨b, off + i * 15 + j, none⟩ = some ((rs i).cell j)

theorem Sees.below {w w' : World} {a : Option Addr} {len : Nat} {rs : Nat → Rep} (h : Sees w a len rs) (hb : Below w.heap.size w w') : Sees w' a len rs := by
  intro i hi
  obtain ⟨ho, b, off, ha, hlt, hc⟩ := h i hi
  refine ⟨ho, b, off, ha, Nat.lt_of_lt_of_le hlt hb.size, fun j hj => ?_⟩
  rw [hb.cell (p := ⟨b, off + i * 15 + j, none⟩) hlt]
  exact hc j hj

set_option maxHeartbeats 400000 in
theorem addRec_any (t : Int) (r : Rep) (w : World) (h0 : 0 ≤ t) (h1 : t ≤ 4294967296) (hv : r.vlen ≤ maxLen) :
    Calls Try.prog 16 #[.int .i64 t, r.rec_] w fun e w' => AnsNum e ∧ Below w.heap.size w w' := by
  unfold maxLen at hv
  by_cases c1 : 1048576 < t
  · go_enter Try.func16, Try.ntmps16
    go_wp2
    go_ret
    exact ⟨AnsNum.mk _ (by omega) (by omega), (Below.refl _ _).alloc (Nat.le_refl _) _⟩
  · by_cases c2 : (1048576 : Int) < (r.vlen : Int)
    · go_enter Try.func16, Try.ntmps16
      go_wp2
      go_ret
      exact ⟨AnsNum.mk _ (by omega) (by omega), (Below.refl _ _).alloc (Nat.le_refl _) _⟩
    · go_enter Try.func16, Try.ntmps16
      go_wp2
      go_ret
      exact ⟨AnsNum.mk _ (by omega) (by omega), (Below.refl _ _).alloc (Nat.le_refl _) _⟩

set_option maxHeartbeats 400000 in
theorem addReply_any (t : Int) (r : Rep) (w : World) (h0 : 0 ≤ t) (h1 : t ≤ 1099511627776) (hr : r.ok) :
    Calls Try.prog 8 #[.int .i64 t, r.val] w fun e w' => AnsNum e ∧ Below w.heap.size w w' := by
  obtain ⟨hi, ha, hv⟩ := hr
  go_enter Try.func8, Try.ntmps8
  go_wp2_with fail
  refine (addString_any _ r.id _ (by omega) (by omega) hi).mono ?_
  rintro e w' ⟨⟨n1, g1, g1', rfl⟩, rfl⟩
  go_wp2_with fail
  refine (addString_any _ r.addr _ (by omega) (by omega) ha).mono ?_
  rintro e w' ⟨⟨n2, g2, g2', rfl⟩, rfl⟩
  go_wp2_with fail
  refine (addRec_any _ r _ (by omega) (by omega) hv).mono ?_
  rintro e w2 ⟨⟨n3, g3, g3', rfl⟩, hb⟩
  have HB : Hid (Below w.heap.size w w2) := ((Below.refl _ _).alloc (Nat.le_refl _) _).trans (hb.mono (by simp))
  clear hb
  go_wp2
  go_ret
  exact ⟨AnsNum.mk _ (by omega) (by omega), HB.out⟩

set_option maxHeartbeats 800000 in
theorem addReplies_any (a : Option Addr) (len cap : Nat) (rs : Nat → Rep) (w : World) (hl : len ≤ maxLen) (hs : Sees w a len rs) :
    Calls Try.prog 9 #[.int .i64 0, .slice a len cap] w fun e w' => AnsNum e ∧ Below w.heap.size w w' := by
  have HS : Hid (Sees w a len rs) := hs
  clear hs
  unfold maxLen at hl
  by_cases c1 : (65536 : Int) < (len : Int)
  · go_enter Try.func9, Try.ntmps9
    go_wp2
    go_ret
    exact ⟨AnsNum.mk _ (by omega) (by omega), Below.refl _ _⟩
  go_enter Try.func9, Try.ntmps9
  go_wp2
  go_loopw [0, 5] (fun n i wr => ∃ k : Nat, ∃ z : Int, k ≤ len ∧ 0 ≤ z ∧ z ≤ 1048576 ∧ i = .int .i64 k ∧ n = .int .i64 z ∧ Below w.heap.size w wr) (fun _ i _ => len - (intOf i).toNat)
  case atStart => exact ⟨0, _, Nat.zero_le _, by omega, by omega, rfl, rfl, Below.refl _ _⟩
  case round =>
    obtain ⟨k, z, hk, hz0, hz1, rfl, rfl, hb⟩ := hrel
    have HB := hide hb
    by_cases hlt : k < len
    · obtain ⟨ho, b, off, ha, hblt, hc⟩ := HS.out.below hb k hlt
      have e0 := hc 0 (by omega)
      have e1 := hc 1 (by omega)
      have e2 := hc 2 (by omega)
      have e3 := hc 3 (by omega)
      have e4 := hc 4 (by omega)
      have e5 := hc 5 (by omega)
      have e6 := hc 6 (by omega)
      have e7 := hc 7 (by omega)
      have e8 := hc 8 (by omega)
      have e9 := hc 9 (by omega)
      have e10 := hc 10 (by omega)
      have e11 := hc 11 (by omega)
      have e12 := hc 12 (by omega)
      have e13 := hc 13 (by omega)
      have e14 := hc 14 (by omega)
      simp only [Rep.cell, Nat.add_zero] at e0 e1 e2 e3 e4 e5 e6 e7 e8 e9 e10 e11 e12 e13 e14
      subst ha
      clear hc hb
      go_wp2_with fail
      refine (addReply_any _ (rs k) _ (by omega) (by omega) ho).mono ?_
      rintro e w2 ⟨⟨n3, g3, g3', rfl⟩, hb⟩
      have HB2 : Hid (Below w.heap.size w w2) := HB.out.trans (hb.mono HB.out.size)
      clear hb e0 e1 e2 e3 e4 e5 e6 e7 e8 e9 e10 e11 e12 e13 e14
      go_wp2
      · go_ret
        exact ⟨AnsNum.mk _ (by omega) (by omega), HB2.out⟩
      · go_roundw
        case rel => exact ⟨k + 1, _, by omega, by omega, by omega, by go_num, rfl, HB2.out⟩
        case measure => simp [intOf]; omega
    · clear hb
      go_wp2
      go_ret
      exact ⟨AnsNum.mk _ (by omega) (by omega), HB.out⟩
end Go.Proofs.Qxb6614952a
