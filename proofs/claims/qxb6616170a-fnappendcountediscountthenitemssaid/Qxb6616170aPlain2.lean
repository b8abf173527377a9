import Derived.Test.Qxb6616170aPlain
namespace Go.Proofs.Qxb6616170a

/-! ### The depth counter -/
/-- From place i at depth d the counter comes in m steps to place j at depth e, never below depth 1 by a closer. -/
def ReachN (f : Nat → Int) (n : Nat) : Nat → Nat → Nat → Nat → Nat → Prop
  | 0, i, d, j, e => i = j ∧ d = e
  | m + 1, i, d, j, e => i < n ∧
    ((f i = 34 ∧ ∃ r, SEnds f n (i + 1) r ∧ ReachN f n m r d j e) ∨
     ((f i = 91 ∨ f i = 123) ∧ ReachN f n m (i + 1) (d + 1) j e) ∨
     ((f i = 93 ∨ f i = 125) ∧ 2 ≤ d ∧ ReachN f n m (i + 1) (d - 1) j e) ∨
     ((f i ≠ 34 ∧ f i ≠ 91 ∧ f i ≠ 123 ∧ f i ≠ 93 ∧ f i ≠ 125) ∧ ReachN f n m (i + 1) d j e))
def Reach (f : Nat → Int) (n i d j e : Nat) : Prop := ∃ m, ReachN f n m i d j e
theorem ReachN.trans {f : Nat → Int} {n j e k g : Nat} {m' : Nat} (h' : ReachN f n m' j e k g) : ∀ (m i d : Nat), ReachN f n m i d j e → ReachN f n (m + m') i d k g := by
  intro m
  induction m with
  | zero =>
    rintro i d ⟨rfl, rfl⟩
    rw [Nat.zero_add]
    exact h'
  | succ m ih =>
    rintro i d ⟨hi, h⟩
    rw [show m + 1 + m' = (m + m') + 1 by omega]
    refine ⟨hi, ?_⟩
    rcases h with ⟨h1, r, h2, h3⟩ | ⟨h1, h3⟩ | ⟨h1, h2, h3⟩ | ⟨h1, h3⟩
    · exact .inl ⟨h1, r, h2, ih _ _ h3⟩
    · exact .inr (.inl ⟨h1, ih _ _ h3⟩)
    · exact .inr (.inr (.inl ⟨h1, h2, ih _ _ h3⟩))
    · exact .inr (.inr (.inr ⟨h1, ih _ _ h3⟩))
theorem Reach.trans {f : Nat → Int} {n i d j e k g : Nat} (h : Reach f n i d j e) (h' : Reach f n j e k g) : Reach f n i d k g := by
  obtain ⟨m, hm⟩ := h
  obtain ⟨m', hm'⟩ := h'
  exact ⟨m + m', ReachN.trans hm' m i d hm⟩
theorem Reach.refl (f : Nat → Int) (n i d : Nat) : Reach f n i d i d := ⟨0, rfl, rfl⟩
theorem Reach.str {f : Nat → Int} {n i r : Nat} (d : Nat) (hi : i < n) (h : f i = 34) (hr : SEnds f n (i + 1) r) : Reach f n i d r d := ⟨1, hi, .inl ⟨h, r, hr, rfl, rfl⟩⟩
theorem Reach.opn {f : Nat → Int} {n i : Nat} (d : Nat) (hi : i < n) (h : f i = 91 ∨ f i = 123) : Reach f n i d (i + 1) (d + 1) := ⟨1, hi, .inr (.inl ⟨h, rfl, rfl⟩)⟩
theorem Reach.cls {f : Nat → Int} {n i : Nat} (d : Nat) (hi : i < n) (h : f i = 93 ∨ f i = 125) (hd : 1 ≤ d) : Reach f n i (d + 1) (i + 1) d := ⟨1, hi, .inr (.inr (.inl ⟨h, by omega, rfl, by omega⟩))⟩
theorem Reach.oth {f : Nat → Int} {n i : Nat} (d : Nat) (hi : i < n) (h : f i ≠ 34 ∧ f i ≠ 91 ∧ f i ≠ 123 ∧ f i ≠ 93 ∧ f i ≠ 125) : Reach f n i d (i + 1) d := ⟨1, hi, .inr (.inr (.inr ⟨h, rfl, rfl⟩))⟩

/-- From i to j at one depth, whatever it is. -/
def Goes (f : Nat → Int) (n i j : Nat) : Prop := i ≤ j ∧ j ≤ n ∧ ∀ d, 1 ≤ d → Reach f n i d j d
theorem Goes.refl {f : Nat → Int} {n i : Nat} (h : i ≤ n) : Goes f n i i := ⟨Nat.le_refl _, h, fun d _ => .refl f n i d⟩
theorem Goes.trans {f : Nat → Int} {n i j k : Nat} (h : Goes f n i j) (g : Goes f n j k) : Goes f n i k := ⟨Nat.le_trans h.1 g.1, g.2.1, fun d hd => (h.2.2 d hd).trans (g.2.2 d hd)⟩
theorem Goes.str {f : Nat → Int} {n i r : Nat} (hi : i < n) (h : f i = 34) (hr : SEnds f n (i + 1) r) : Goes f n i r := ⟨by have := hr.bd; omega, hr.bd.2, fun d _ => .str d hi h hr⟩
theorem Goes.oth {f : Nat → Int} {n i : Nat} (hi : i < n) (h : f i ≠ 34 ∧ f i ≠ 91 ∧ f i ≠ 123 ∧ f i ≠ 93 ∧ f i ≠ 125) : Goes f n i (i + 1) := ⟨by omega, hi, fun d _ => .oth d hi h⟩
theorem Goes.span {f : Nat → Int} {n : Nat} : ∀ (k i : Nat), i + k ≤ n → (∀ j, i ≤ j → j < i + k → f j ≠ 34 ∧ f j ≠ 91 ∧ f j ≠ 123 ∧ f j ≠ 93 ∧ f j ≠ 125) → Goes f n i (i + k) := by
  intro k
  induction k with
  | zero => intro i h _; exact .refl h
  | succ k ih =>
    intro i h hp
    have h1 := ih (i + 1) (by omega) (fun j h1 h2 => hp j (by omega) (by omega))
    rw [show i + 1 + k = i + (k + 1) by omega] at h1
    exact (Goes.oth (by omega) (hp i (by omega) (by omega))).trans h1
theorem Goes.plains {f : Nat → Int} {n i r : Nat} (h : i ≤ r) (hr : r ≤ n) (hp : Plains f i r) : Goes f n i r := by
  have := Goes.span (f := f) (n := n) (r - i) i (by omega) (fun j h1 h2 => by
    obtain ⟨a, _, c, d, e, g, _⟩ := hp j h1 (by omega)
    exact ⟨a, c, e, d, g⟩)
  rwa [show i + (r - i) = r by omega] at this
theorem ws_other {c : Int} (h : isWs c = true) : c ≠ 34 ∧ c ≠ 91 ∧ c ≠ 123 ∧ c ≠ 93 ∧ c ≠ 125 := by
  simp [isWs] at h
  omega
theorem Goes.ws {f : Nat → Int} {n i : Nat} (h : i ≤ n) : Goes f n i (ws f n i) := by
  have h1 := ws_ge (f := f) h
  have h2 := ws_le (f := f) h
  have := Goes.span (f := f) (n := n) (Qxb6616170a.ws f n i - i) i (by omega) (fun j h3 h4 => ws_other (ws_mid (f := f) (n := n) (i := i) h h3 (by omega)))
  rwa [show i + (Qxb6616170a.ws f n i - i) = Qxb6616170a.ws f n i by omega] at this

/-- A container from i to r. -/
def ContOK (f : Nat → Int) (n i r : Nat) : Prop := (f i = 91 ∨ f i = 123) ∧ i + 2 ≤ r ∧ r ≤ n ∧ (f (r - 1) = 93 ∨ f (r - 1) = 125) ∧ Goes f n (i + 1) (r - 1)
theorem ContOK.goes {f : Nat → Int} {n i r : Nat} (h : ContOK f n i r) : Goes f n i r := by
  obtain ⟨h1, h2, h3, h4, h5⟩ := h
  refine ⟨by omega, h3, fun d hd => ?_⟩
  have a := Reach.opn (f := f) (n := n) d (by omega : i < n) h1
  have b := h5.2.2 (d + 1) (by omega)
  have c := Reach.cls (f := f) (n := n) d (by omega : r - 1 < n) h4 hd
  rw [show r - 1 + 1 = r by omega] at c
  exact (a.trans b).trans c
theorem ContOK.reach {f : Nat → Int} {n i r : Nat} (h : ContOK f n i r) : Reach f n i 0 (r - 1) 1 := by
  obtain ⟨h1, h2, h3, h4, h5⟩ := h
  exact (Reach.opn (f := f) (n := n) 0 (by omega : i < n) h1).trans (h5.2.2 1 (by omega))
/-- A value from i to r. -/
def ValOK (f : Nat → Int) (n i r : Nat) : Prop := i < r ∧ r ≤ n ∧ ((f i = 34 ∧ SEnds f n (i + 1) r) ∨ ContOK f n i r ∨ Plains f i r)
theorem ValOK.goes {f : Nat → Int} {n i r : Nat} (h : ValOK f n i r) : Goes f n i r := by
  obtain ⟨h1, h2, ⟨a, b⟩ | h | h⟩ := h
  · exact .str (by omega) a b
  · exact h.goes
  · exact .plains (by omega) h2 h

/-! ### The items of a container -/
structure It where
  st : Nat
  ke : Nat
  vs : Nat
  ve : Nat
def closer (obj : Bool) : Int := if obj then 125 else 93
/-- The item it begins at i. -/
structure ItemOK (f : Nat → Int) (n : Nat) (obj : Bool) (it : It) (i : Nat) : Prop where
  st : it.st = i
  lt : i < n
  key : obj = true → f i = 34 ∧ SEnds f n (i + 1) it.ke ∧ ws f n it.ke < n ∧ f (ws f n it.ke) = 58 ∧ it.vs = ws f n (ws f n it.ke + 1)
  arr : obj = false → it.ke = i ∧ it.vs = i
  val : ValOK f n it.vs it.ve
  aft : ws f n it.ve < n
theorem ItemOK.goes {f : Nat → Int} {n : Nat} {obj : Bool} {it : It} {i : Nat} (h : ItemOK f n obj it i) : Goes f n i (ws f n it.ve) := by
  have g1 := h.val.goes
  have g2 := Goes.ws (f := f) h.val.2.1
  cases obj with
  | false =>
    obtain ⟨_, e⟩ := h.arr rfl
    rw [e] at g1
    exact g1.trans g2
  | true =>
    obtain ⟨k1, k2, k3, k4, k5⟩ := h.key rfl
    have a := Goes.str h.lt k1 k2
    have b := Goes.ws (f := f) k2.bd.2
    have c := Goes.oth (f := f) (n := n) k3 (by omega)
    have d := Goes.ws (f := f) (n := n) (i := ws f n it.ke + 1) (by omega)
    rw [← k5] at d
    exact ((((a.trans b).trans c).trans d).trans g1).trans g2
/-- The items, each with a comma behind it, lead from i to j. -/
def Done (f : Nat → Int) (n : Nat) (obj : Bool) : List It → Nat → Nat → Prop
  | [], i, j => i = j
  | it :: l, i, j => ItemOK f n obj it i ∧ f (ws f n it.ve) = 44 ∧ Done f n obj l (ws f n (ws f n it.ve + 1)) j
theorem Done.snoc {f : Nat → Int} {n : Nat} {obj : Bool} {it : It} {j : Nat} (hi : ItemOK f n obj it j) (hc : f (ws f n it.ve) = 44) : ∀ (l : List It) (i : Nat), Done f n obj l i j → Done f n obj (l ++ [it]) i (ws f n (ws f n it.ve + 1)) := by
  intro l
  induction l with
  | nil => rintro i rfl; exact ⟨hi, hc, rfl⟩
  | cons a l ih => rintro i ⟨h1, h2, h3⟩; exact ⟨h1, h2, ih _ h3⟩
/-- The items of the container at s. -/
def Whole (f : Nat → Int) (n : Nat) (obj : Bool) (s : Nat) (its : List It) : Prop :=
  (its = [] ∧ ws f n (s + 1) < n ∧ f (ws f n (s + 1)) = closer obj) ∨
  ∃ l it k, its = l ++ [it] ∧ Done f n obj l (ws f n (s + 1)) k ∧ ItemOK f n obj it k ∧ f (ws f n it.ve) = closer obj

/-! ### Their bytes -/
def bys (f : Nat → Int) (i r : Nat) : List Int := (List.range (r - i)).map fun k => f (i + k)
theorem bys_length (f : Nat → Int) (i r : Nat) : (bys f i r).length = r - i := by simp [bys]
theorem bys_get (f : Nat → Int) (i r k : Nat) (h : k < r - i) : (bys f i r)[k]? = some (f (i + k)) := by simp [bys, h]
theorem bys_nil (f : Nat → Int) (i : Nat) : bys f i i = [] := by simp [bys]
def itB (f : Nat → Int) (it : It) : List Int := bys f it.st it.ke ++ bys f it.vs it.ve
def itsB (f : Nat → Int) (l : List It) : List Int := l.flatMap (itB f)
theorem itsB_snoc (f : Nat → Int) (l : List It) (it : It) : itsB f (l ++ [it]) = itsB f l ++ itB f it := by simp [itsB]
end Go.Proofs.Qxb6616170a
