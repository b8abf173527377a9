import Derived.Test.Qxb6616170aWc
import Derived.Test.Qxb6616170aPlain2
namespace Go.Proofs.Qxb6616170a
open Go.RowKit

/-- The body that zzJSContainer gathers: nothing where rec is false, else a row of its own. -/
structure BodyOK (rec : Bool) (w0 w : World) (v : Value) (xs : List Int) : Prop where
  bel : Below w0.heap.size w0 w
  no : rec = false → v = .slice none 0 0 ∧ Drawn w0 w
  yes : rec = true → w.ownsRow w0.heap.size 5 1 v xs.length (xs.map (Value.int .u8))
/-- What zzJSContainer answers at s. -/
def Ans17 (f : Nat → Int) (n s : Nat) (obj rec : Bool) (w : World) (e : Ending) (w' : World) : Prop :=
  (e = .returned (.tuple #[.int .i64 (-1), .int .i64 0, .slice none 0 0]) ∧ Below w.heap.size w w' ∧ (rec = false → Drawn w w')) ∨
  ∃ (r : Nat) (its : List It) (v : Value), e = .returned (.tuple #[.int .i64 r, .int .i64 its.length, v]) ∧ BodyOK rec w w' v (itsB f its) ∧ ContOK f n s r ∧ Whole f n obj s its ∧ its.length ≤ n ∧ (itsB f its).length ≤ n

theorem word_true : ∀ j (h : j < (⟨#[116, 114, 117, 101]⟩ : ByteArray).size), plainC (((⟨#[116, 114, 117, 101]⟩ : ByteArray)[j]'h).toNat : Int) := by
  intro j h
  have h' : j < 4 := h
  have : j = 0 ∨ j = 1 ∨ j = 2 ∨ j = 3 := by omega
  rcases this with rfl | rfl | rfl | rfl
  · show plainC ((116 : UInt8).toNat : Int); exact plain_of (by simp)
  · show plainC ((114 : UInt8).toNat : Int); exact plain_of (by simp)
  · show plainC ((117 : UInt8).toNat : Int); exact plain_of (by simp)
  · show plainC ((101 : UInt8).toNat : Int); exact plain_of (by simp)
theorem word_false : ∀ j (h : j < (⟨#[102, 97, 108, 115, 101]⟩ : ByteArray).size), plainC (((⟨#[102, 97, 108, 115, 101]⟩ : ByteArray)[j]'h).toNat : Int) := by
  intro j h
  have h' : j < 5 := h
  have : j = 0 ∨ j = 1 ∨ j = 2 ∨ j = 3 ∨ j = 4 := by omega
  rcases this with rfl | rfl | rfl | rfl | rfl
  · show plainC ((102 : UInt8).toNat : Int); exact plain_of (by simp)
  · show plainC ((97 : UInt8).toNat : Int); exact plain_of (by simp)
  · show plainC ((108 : UInt8).toNat : Int); exact plain_of (by simp)
  · show plainC ((115 : UInt8).toNat : Int); exact plain_of (by simp)
  · show plainC ((101 : UInt8).toNat : Int); exact plain_of (by simp)
theorem word_null : ∀ j (h : j < (⟨#[110, 117, 108, 108]⟩ : ByteArray).size), plainC (((⟨#[110, 117, 108, 108]⟩ : ByteArray)[j]'h).toNat : Int) := by
  intro j h
  have h' : j < 4 := h
  have : j = 0 ∨ j = 1 ∨ j = 2 ∨ j = 3 := by omega
  rcases this with rfl | rfl | rfl | rfl
  · show plainC ((110 : UInt8).toNat : Int); exact plain_of (by simp)
  · show plainC ((117 : UInt8).toNat : Int); exact plain_of (by simp)
  · show plainC ((108 : UInt8).toNat : Int); exact plain_of (by simp)
  · show plainC ((108 : UInt8).toNat : Int); exact plain_of (by simp)

theorem AnsEnd.weak {P Q : Nat → Prop} {e : Ending} (h : AnsEnd P e) (hq : ∀ r, P r → Q r) : AnsEnd Q e := by
  rcases h with h | ⟨r, h, hr⟩
  · exact .inl h
  · exact .inr ⟨r, h, hq r hr⟩
/-- What zzJSValue answers at i. -/
def Ans25 (f : Nat → Int) (n i : Nat) (w : World) (e : Ending) (w' : World) : Prop := AnsEnd (ValOK f n i) e ∧ Drawn w w'

set_option maxRecDepth 20000 in
set_option maxHeartbeats 3200000 in
theorem value_from (a : Option Addr) (n cap i : Nat) (f : Nat → Int) (w : World) (hn : n ≤ 1048576) (hi : i ≤ n) (hs : SeesB w a n f)
    (hcont : i < n → ∀ obj : Bool, (f i = if obj then 123 else 91) → Calls Try.prog 17 #[.slice a n cap, .int .i64 i, .bool false] w (Ans17 f n i obj false w)) :
    Calls Try.prog 25 #[.slice a n cap, .int .i64 i] w (Ans25 f n i w) := by
  have HS := hide hs
  have HC := hide hcont
  clear hs hcont
  by_cases c : i < n
  case neg =>
    go_enter Try.func25, Try.ntmps25
    go_wp2
    go_ret
    exact ⟨AnsEnd.no _, Drawn.refl _⟩
  obtain ⟨b, off, ha, _, hc⟩ := HS.out i c
  subst ha
  go_enter Try.func25, Try.ntmps25
  by_cases h1 : f i = 34
  · have g : (f i == 34) = true := by simp [h1]
    have H1 := hide h1
    clear h1
    go_wp2_with fail
    refine (zzString_any _ n cap i f _ hn c HS.out).mono ?_
    rintro e w' ⟨he, hw'⟩
    subst hw'
    rcases he with rfl | ⟨r, rfl, hr⟩
    · go_wp2
      go_ret
      exact ⟨AnsEnd.no _, Drawn.refl _⟩
    · have HR := hide hr
      clear hr
      go_wp2
      go_ret
      exact ⟨AnsEnd.yes r rfl ⟨by have := HR.out.bd; omega, HR.out.bd.2, .inl ⟨H1.out, HR.out⟩⟩, Drawn.refl _⟩
  have g34 : (f i == 34) = false := by simp [h1]
  clear h1
  by_cases h1 : f i = 91
  · have g : (f i == 91) = true := by simp [h1]
    have H1 := hide h1
    clear h1
    go_wp2_with fail
    refine (HC.out c false H1.out).mono ?_
    rintro e w' (⟨rfl, _, hd⟩ | ⟨r, its, v, rfl, hb, hco, _⟩)
    · have HD := hide (hd rfl)
      clear hd
      go_wp2
      go_ret
      exact ⟨AnsEnd.no _, HD.out⟩
    · have HD := hide (hb.no rfl).2
      have HCO := hide hco
      clear hb hco
      go_wp2
      go_ret
      exact ⟨AnsEnd.yes r rfl ⟨by have := HCO.out.2.1; omega, HCO.out.2.2.1, .inr (.inl HCO.out)⟩, HD.out⟩
  have g91 : (f i == 91) = false := by simp [h1]
  clear h1
  by_cases h1 : f i = 123
  · have g : (f i == 123) = true := by simp [h1]
    have H1 := hide h1
    clear h1
    go_wp2_with fail
    refine (HC.out c true H1.out).mono ?_
    rintro e w' (⟨rfl, _, hd⟩ | ⟨r, its, v, rfl, hb, hco, _⟩)
    · have HD := hide (hd rfl)
      clear hd
      go_wp2
      go_ret
      exact ⟨AnsEnd.no _, HD.out⟩
    · have HD := hide (hb.no rfl).2
      have HCO := hide hco
      clear hb hco
      go_wp2
      go_ret
      exact ⟨AnsEnd.yes r rfl ⟨by have := HCO.out.2.1; omega, HCO.out.2.2.1, .inr (.inl HCO.out)⟩, HD.out⟩
  have g123 : (f i == 123) = false := by simp [h1]
  clear h1
  cases g1 : (f i == 116)
  case true =>
    go_wp2_with fail
    refine (word_any _ n cap i f _ _ hn c (by decide) (by decide) word_true HS.out).mono ?_
    rintro e w' ⟨he, hd⟩
    have HE := hide (he.weak (Q := ValOK f n i) fun r h => ⟨h.1, h.2.1, .inr (.inr h.2.2)⟩)
    have HD := hide hd
    clear hd
    rcases he with rfl | ⟨r, rfl, _⟩
    · go_wp2
      go_ret
      exact ⟨HE.out, HD.out⟩
    · go_wp2
      go_ret
      exact ⟨HE.out, HD.out⟩
  cases g2 : (f i == 102)
  case true =>
    go_wp2_with fail
    refine (word_any _ n cap i f _ _ hn c (by decide) (by decide) word_false HS.out).mono ?_
    rintro e w' ⟨he, hd⟩
    have HE := hide (he.weak (Q := ValOK f n i) fun r h => ⟨h.1, h.2.1, .inr (.inr h.2.2)⟩)
    have HD := hide hd
    clear hd
    rcases he with rfl | ⟨r, rfl, _⟩
    · go_wp2
      go_ret
      exact ⟨HE.out, HD.out⟩
    · go_wp2
      go_ret
      exact ⟨HE.out, HD.out⟩
  cases g3 : (f i == 110)
  case true =>
    go_wp2_with fail
    refine (word_any _ n cap i f _ _ hn c (by decide) (by decide) word_null HS.out).mono ?_
    rintro e w' ⟨he, hd⟩
    have HE := hide (he.weak (Q := ValOK f n i) fun r h => ⟨h.1, h.2.1, .inr (.inr h.2.2)⟩)
    have HD := hide hd
    clear hd
    rcases he with rfl | ⟨r, rfl, _⟩
    · go_wp2
      go_ret
      exact ⟨HE.out, HD.out⟩
    · go_wp2
      go_ret
      exact ⟨HE.out, HD.out⟩
  go_wp2_with fail
  refine (number_any _ n cap i f _ hn hi HS.out).mono ?_
  rintro e w' ⟨he, hw'⟩
  subst hw'
  have HE := hide (he.weak (Q := ValOK f n i) fun r h => ⟨h.1, h.2.1, .inr (.inr h.2.2)⟩)
  rcases he with rfl | ⟨r, rfl, _⟩
  · go_wp2
    go_ret
    exact ⟨HE.out, Drawn.refl _⟩
  · go_wp2
    go_ret
    exact ⟨HE.out, Drawn.refl _⟩
end Go.Proofs.Qxb6616170a
