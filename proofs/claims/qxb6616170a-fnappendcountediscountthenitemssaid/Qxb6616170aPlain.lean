namespace Go.Proofs.Qxb6616170a

/-! ### Bytes by their index: plain -/
def isWs (c : Int) : Bool := c == 32 || c == 9 || c == 10 || c == 13
def wsF (f : Nat → Int) (n : Nat) : Nat → Nat → Nat
  | 0, i => i
  | k + 1, i => if i < n ∧ isWs (f i) = true then wsF f n k (i + 1) else i
/-- The first index from i on that is no blank. -/
def ws (f : Nat → Int) (n i : Nat) : Nat := wsF f n (n - i) i
theorem ws_step {f : Nat → Int} {n i : Nat} (hi : i < n) (h : isWs (f i) = true) : ws f n i = ws f n (i + 1) := by
  unfold ws
  obtain ⟨k, hk⟩ : ∃ k, n - i = k + 1 := ⟨n - i - 1, by omega⟩
  rw [hk, show n - (i + 1) = k by omega]
  conv => lhs; unfold wsF
  rw [if_pos ⟨hi, h⟩]
theorem ws_stop {f : Nat → Int} {n i : Nat} (h : ¬ (i < n ∧ isWs (f i) = true)) : ws f n i = i := by
  unfold ws
  cases n - i with
  | zero => rfl
  | succ k => unfold wsF; rw [if_neg h]
theorem ws_spec (f : Nat → Int) (n : Nat) : ∀ (k i : Nat), n - i = k → i ≤ n → i ≤ ws f n i ∧ ws f n i ≤ n ∧ (ws f n i < n → isWs (f (ws f n i)) = false) ∧ ∀ j, i ≤ j → j < ws f n i → isWs (f j) = true := by
  intro k
  induction k with
  | zero =>
    intro i hk hi
    have e : ws f n i = i := ws_stop (by omega)
    rw [e]
    exact ⟨Nat.le_refl _, hi, fun h => by omega, fun j h1 h2 => by omega⟩
  | succ k ih =>
    intro i hk hi
    by_cases h : isWs (f i) = true
    · have e := ws_step (f := f) (n := n) (i := i) (by omega) h
      obtain ⟨h1, h2, h3, h4⟩ := ih (i + 1) (by omega) (by omega)
      rw [e]
      refine ⟨by omega, h2, h3, fun j hj hj2 => ?_⟩
      by_cases ej : j = i
      · subst ej; exact h
      · exact h4 j (by omega) hj2
    · have e : ws f n i = i := ws_stop (by intro hh; exact h hh.2)
      rw [e]
      exact ⟨Nat.le_refl _, hi, fun _ => by simpa using h, fun j h1 h2 => by omega⟩
theorem ws_ge {f : Nat → Int} {n i : Nat} (hi : i ≤ n) : i ≤ ws f n i := (ws_spec f n _ i rfl hi).1
theorem ws_le {f : Nat → Int} {n i : Nat} (hi : i ≤ n) : ws f n i ≤ n := (ws_spec f n _ i rfl hi).2.1
theorem ws_not {f : Nat → Int} {n i : Nat} (hi : i ≤ n) (h : ws f n i < n) : isWs (f (ws f n i)) = false := (ws_spec f n _ i rfl hi).2.2.1 h
theorem ws_mid {f : Nat → Int} {n i j : Nat} (hi : i ≤ n) (h1 : i ≤ j) (h2 : j < ws f n i) : isWs (f j) = true := (ws_spec f n _ i rfl hi).2.2.2 j h1 h2

/-! ### Where a string ends -/
def sE (f : Nat → Int) (n : Nat) : Nat → Nat → Option Nat
  | 0, _ => none
  | k + 1, j => if j < n then (if f j = 34 then some (j + 1) else if f j = 92 then sE f n k (j + 2) else sE f n k (j + 1)) else none
def SEnds (f : Nat → Int) (n j r : Nat) : Prop := ∃ k, sE f n k j = some r
theorem SEnds.quote {f : Nat → Int} {n j : Nat} (h : j < n) (hq : f j = 34) : SEnds f n j (j + 1) := ⟨1, by unfold sE; rw [if_pos h, if_pos hq]⟩
theorem SEnds.back {f : Nat → Int} {n j r : Nat} (h : j < n) (hq : f j = 92) (hr : SEnds f n (j + 2) r) : SEnds f n j r := by
  obtain ⟨k, hk⟩ := hr
  exact ⟨k + 1, by unfold sE; rw [if_pos h, if_neg (by omega), if_pos hq]; exact hk⟩
theorem SEnds.skip {f : Nat → Int} {n j r : Nat} (h : j < n) (h1 : f j ≠ 34) (h2 : f j ≠ 92) (hr : SEnds f n (j + 1) r) : SEnds f n j r := by
  obtain ⟨k, hk⟩ := hr
  exact ⟨k + 1, by unfold sE; rw [if_pos h, if_neg h1, if_neg h2]; exact hk⟩
theorem SEnds.inv {f : Nat → Int} {n j r : Nat} (h : SEnds f n j r) : j < n ∧ ((f j = 34 ∧ r = j + 1) ∨ (f j = 92 ∧ SEnds f n (j + 2) r) ∨ (f j ≠ 34 ∧ f j ≠ 92 ∧ SEnds f n (j + 1) r)) := by
  obtain ⟨k, hk⟩ := h
  cases k with
  | zero => simp [sE] at hk
  | succ k =>
    unfold sE at hk
    by_cases h0 : j < n
    · rw [if_pos h0] at hk
      refine ⟨h0, ?_⟩
      by_cases h1 : f j = 34
      · rw [if_pos h1] at hk
        exact .inl ⟨h1, (Option.some.inj hk).symm⟩
      · rw [if_neg h1] at hk
        by_cases h2 : f j = 92
        · rw [if_pos h2] at hk
          exact .inr (.inl ⟨h2, k, hk⟩)
        · rw [if_neg h2] at hk
          exact .inr (.inr ⟨h1, h2, k, hk⟩)
    · rw [if_neg h0] at hk
      cases hk
theorem sE_bd (f : Nat → Int) (n : Nat) : ∀ k j r, sE f n k j = some r → j < r ∧ r ≤ n ∧ r ≥ 1 ∧ f (r - 1) = 34 := by
  intro k
  induction k with
  | zero => intro j r h; simp [sE] at h
  | succ k ih =>
    intro j r h
    unfold sE at h
    by_cases h0 : j < n
    · rw [if_pos h0] at h
      by_cases h1 : f j = 34
      · rw [if_pos h1] at h
        have := Option.some.inj h
        subst this
        exact ⟨by omega, by omega, by omega, by simpa using h1⟩
      · rw [if_neg h1] at h
        by_cases h2 : f j = 92
        · rw [if_pos h2] at h
          obtain ⟨a, b, c, d⟩ := ih _ _ h
          exact ⟨by omega, b, c, d⟩
        · rw [if_neg h2] at h
          obtain ⟨a, b, c, d⟩ := ih _ _ h
          exact ⟨by omega, b, c, d⟩
    · rw [if_neg h0] at h; cases h
theorem SEnds.bd {f : Nat → Int} {n j r : Nat} (h : SEnds f n j r) : j < r ∧ r ≤ n := by
  obtain ⟨k, hk⟩ := h
  obtain ⟨a, b, _⟩ := sE_bd f n k j r hk
  exact ⟨a, b⟩

def hexB (c : Int) : Bool := (decide (48 ≤ c) && decide (c ≤ 57)) || (decide (97 ≤ c) && decide (c ≤ 102)) || (decide (65 ≤ c) && decide (c ≤ 70))
theorem hexB_plain {c : Int} (h : hexB c = true) : c ≠ 34 ∧ c ≠ 92 := by
  simp [hexB] at h
  omega
/-- Six bytes of an escape of the kind u and four digits. -/
theorem SEnds.uni {f : Nat → Int} {n k r : Nat} (hn : k + 6 ≤ n) (h0 : f k = 92) (hx : ∀ t, k + 2 ≤ t → t < k + 6 → hexB (f t) = true) (h : SEnds f n (k + 6) r) : SEnds f n k r := by
  have g2 := hexB_plain (hx (k + 2) (by omega) (by omega))
  have g3 := hexB_plain (hx (k + 3) (by omega) (by omega))
  have g4 := hexB_plain (hx (k + 4) (by omega) (by omega))
  have g5 := hexB_plain (hx (k + 5) (by omega) (by omega))
  exact .back (by omega) h0 (.skip (by omega) g2.1 g2.2 (.skip (by omega) g3.1 g3.2 (.skip (by omega) g4.1 g4.2 (.skip (by omega) g5.1 g5.2 h))))

/-- A byte of a number or a word: no quote, bracket, comma or blank. -/
def plainC (c : Int) : Prop := c ≠ 34 ∧ c ≠ 44 ∧ c ≠ 91 ∧ c ≠ 93 ∧ c ≠ 123 ∧ c ≠ 125 ∧ isWs c = false
theorem plain_of {c : Int} (h : (48 ≤ c ∧ c ≤ 57) ∨ c = 45 ∨ c = 43 ∨ c = 46 ∨ c = 101 ∨ c = 69 ∨ (97 ≤ c ∧ c ≤ 122)) : plainC c := by
  refine ⟨by omega, by omega, by omega, by omega, by omega, by omega, ?_⟩
  simp [isWs]
  omega
/-- The bytes from i to r are plain. -/
def Plains (f : Nat → Int) (i r : Nat) : Prop := ∀ j, i ≤ j → j < r → plainC (f j)
theorem Plains.refl (f : Nat → Int) (i : Nat) : Plains f i i := fun j h1 h2 => by omega
theorem Plains.snoc {f : Nat → Int} {i r : Nat} (h : Plains f i r) (hc : plainC (f r)) : Plains f i (r + 1) := fun j h1 h2 => by
  by_cases e : j = r
  · subst e; exact hc
  · exact h j h1 (by omega)
theorem Plains.join {f : Nat → Int} {i r s : Nat} (h : Plains f i r) (k : Plains f r s) : Plains f i s := fun j h1 h2 => by
  by_cases e : j < r
  · exact h j h1 e
  · exact k j (by omega) h2
end Go.Proofs.Qxb6616170a
