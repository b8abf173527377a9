import Derived.Laws.BitsAllLaws
namespace Go.Proofs.Qxb6615730a

/-- The number of one bits among the lowest k bits of n. -/
def pcF : Nat → Nat → Nat
  | 0, _ => 0
  | k + 1, n => n % 2 + pcF k (n / 2)
def pc (n : Nat) : Nat := pcF 64 n

theorem pcF_split (j : Nat) : ∀ k n, pcF (j + k) n = pcF j n + pcF k (n / 2 ^ j) := by
  induction j with
  | zero => intro k n; simp [pcF]
  | succ j ih =>
    intro k n
    rw [show j + 1 + k = (j + k) + 1 by omega]
    simp only [pcF]
    rw [ih, Nat.div_div_eq_div_mul, Nat.pow_succ, Nat.mul_comm 2 (2 ^ j)]
    omega
theorem pcF_zero (k : Nat) : pcF k 0 = 0 := by
  induction k with
  | zero => rfl
  | succ k ih => simp [pcF, ih]
theorem pcF_stable {m k n : Nat} (h : n < 2 ^ m) : pcF (m + k) n = pcF m n := by
  rw [pcF_split, Nat.div_eq_of_lt h, pcF_zero, Nat.add_zero]
theorem pcF_add (j r : Nat) : ∀ b, pcF j (b + 2 ^ j * r) = pcF j b := by
  induction j generalizing r with
  | zero => intro b; rfl
  | succ j ih =>
    intro b
    simp only [pcF]
    have e1 : (b + 2 ^ (j + 1) * r) % 2 = b % 2 := by rw [Nat.pow_succ, Nat.mul_comm (2 ^ j) 2, Nat.mul_assoc]; omega
    have e2 : (b + 2 ^ (j + 1) * r) / 2 = b / 2 + 2 ^ j * r := by rw [Nat.pow_succ, Nat.mul_comm (2 ^ j) 2, Nat.mul_assoc]; omega
    rw [e1, e2, ih]
theorem pcF_le (k : Nat) : ∀ n, pcF k n ≤ k := by
  induction k with
  | zero => intro n; exact Nat.le_refl _
  | succ k ih => intro n; simp only [pcF]; have := ih (n / 2); omega
theorem pcF_ones (k : Nat) : pcF k (2 ^ k - 1) = k := by
  induction k with
  | zero => rfl
  | succ k ih =>
    simp only [pcF]
    have hp : 0 < 2 ^ k := Nat.two_pow_pos k
    have e1 : (2 ^ (k + 1) - 1) % 2 = 1 := by rw [Nat.pow_succ]; omega
    have e2 : (2 ^ (k + 1) - 1) / 2 = 2 ^ k - 1 := by rw [Nat.pow_succ]; omega
    rw [e1, e2, ih]; omega

/-! ### The parallel sum of bits, byte by byte -/
theorem land_step (b m r M : Nat) (hb : b < 256) (hm : m < 256) : (b + 256 * r) &&& (m + 256 * M) = (b &&& m) + 256 * (r &&& M) := by
  have h1 : ((b + 256 * r) &&& (m + 256 * M)) % 2 ^ 8 = b &&& m := by
    rw [Nat.and_mod_two_pow, show (b + 256 * r) % 2 ^ 8 = b by omega, show (m + 256 * M) % 2 ^ 8 = m by omega]
  have h2 : ((b + 256 * r) &&& (m + 256 * M)) / 2 ^ 8 = r &&& M := by
    rw [Nat.and_div_two_pow, show (b + 256 * r) / 2 ^ 8 = r by omega, show (m + 256 * M) / 2 ^ 8 = M by omega]
  omega

def mask (m : Nat) : Nat → Nat
  | 0 => 0
  | k + 1 => m + 256 * mask m k

theorem mask_succ (m k : Nat) : mask m (k + 1) = m + 256 * mask m k := rfl

def f1 (k n : Nat) : Nat := (n / 2 &&& mask 85 k) + (n &&& mask 85 k)
def f2 (k n : Nat) : Nat := (n / 4 &&& mask 51 k) + (n &&& mask 51 k)
def f3 (k n : Nat) : Nat := (n / 16 + n) &&& mask 15 k
def g1 (b : Nat) : Nat := (b / 2 &&& 85) + (b &&& 85)
def g2 (b : Nat) : Nat := (b / 4 &&& 51) + (b &&& 51)

theorem and_low1 : ∀ b, b < 256 → ∀ c, c < 2 → (b / 2 + 128 * c) &&& 85 = b / 2 &&& 85 := by decide +kernel
theorem and_low2 : ∀ b, b < 256 → ∀ c, c < 4 → (b / 4 + 64 * c) &&& 51 = b / 4 &&& 51 := by decide +kernel
theorem and_low3 : ∀ b, b < 69 → ∀ c, c < 5 → (b / 16 + 16 * c + b) &&& 15 = (b / 16 + b) % 16 := by decide +kernel
theorem byte_pc : ∀ b, b < 256 → g1 b < 256 ∧ g2 (g1 b) < 69 ∧ g2 (g1 b) % 16 < 5 ∧ (g2 (g1 b) / 16 + g2 (g1 b)) % 16 = pcF 8 b := by decide +kernel

theorem f1_step (k b r : Nat) (hb : b < 256) : f1 (k + 1) (b + 256 * r) = g1 b + 256 * f1 k r := by
  unfold f1 g1
  rw [mask_succ, show (b + 256 * r) / 2 = (b / 2 + 128 * (r % 2)) + 256 * (r / 2) by omega, land_step _ _ _ _ (by omega) (by omega), land_step _ _ _ _ hb (by omega), and_low1 b hb _ (by omega)]
  omega
theorem f2_step (k b r : Nat) (hb : b < 256) : f2 (k + 1) (b + 256 * r) = g2 b + 256 * f2 k r := by
  unfold f2 g2
  rw [mask_succ, show (b + 256 * r) / 4 = (b / 4 + 64 * (r % 4)) + 256 * (r / 4) by omega, land_step _ _ _ _ (by omega) (by omega), land_step _ _ _ _ hb (by omega), and_low2 b hb _ (by omega)]
  omega
theorem f3_step (k b r : Nat) (hb : b < 69) (hr : r % 16 < 5) : f3 (k + 1) (b + 256 * r) = (b / 16 + b) % 16 + 256 * f3 k r := by
  unfold f3
  rw [mask_succ, show (b + 256 * r) / 16 + (b + 256 * r) = (b / 16 + 16 * (r % 16) + b) + 256 * (r / 16 + r) by omega, land_step _ _ _ _ (by omega) (by omega), and_low3 b hb _ hr]

theorem f21_mod (k r : Nat) : f2 k (f1 k r) % 16 < 5 := by
  cases k with
  | zero => simp [f2, mask]
  | succ k =>
    have e : r = r % 256 + 256 * (r / 256) := by omega
    rw [e, f1_step _ _ _ (by omega)]
    obtain ⟨h1, h2, h3, _⟩ := byte_pc (r % 256) (by omega)
    rw [f2_step _ _ _ h1]
    omega
theorem f_step (k b r : Nat) (hb : b < 256) : f3 (k + 1) (f2 (k + 1) (f1 (k + 1) (b + 256 * r))) = pcF 8 b + 256 * f3 k (f2 k (f1 k r)) := by
  obtain ⟨h1, h2, h3, h4⟩ := byte_pc b hb
  rw [f1_step _ _ _ hb, f2_step _ _ _ h1, f3_step _ _ _ h2 (f21_mod k r), h4]

/-- Bytes summed up by three shifts. -/
def fold3 (c : Nat) : Nat := ((c + c / 256) + (c + c / 256) / 65536) + ((c + c / 256) + (c + c / 256) / 65536) / 4294967296
theorem fold3_eq (c0 c1 c2 c3 c4 c5 c6 c7 : Nat) (h0 : c0 ≤ 8) (h1 : c1 ≤ 8) (h2 : c2 ≤ 8) (h3 : c3 ≤ 8) (h4 : c4 ≤ 8) (h5 : c5 ≤ 8) (h6 : c6 ≤ 8) (h7 : c7 ≤ 8) :
    fold3 (c0 + 256 * (c1 + 256 * (c2 + 256 * (c3 + 256 * (c4 + 256 * (c5 + 256 * (c6 + 256 * c7))))))) % 128 = c0 + c1 + c2 + c3 + c4 + c5 + c6 + c7 := by
  have q1 : (c0 + 256 * (c1 + 256 * (c2 + 256 * (c3 + 256 * (c4 + 256 * (c5 + 256 * (c6 + 256 * c7))))))) / 256 = c1 + 256 * (c2 + 256 * (c3 + 256 * (c4 + 256 * (c5 + 256 * (c6 + 256 * c7))))) := by omega
  have q2 : (c0 + 256 * (c1 + 256 * (c2 + 256 * (c3 + 256 * (c4 + 256 * (c5 + 256 * (c6 + 256 * c7))))))) + (c1 + 256 * (c2 + 256 * (c3 + 256 * (c4 + 256 * (c5 + 256 * (c6 + 256 * c7)))))) =
      (c0 + c1) + 256 * (c1 + c2) + 65536 * ((c2 + c3) + 256 * (c3 + c4) + 65536 * ((c4 + c5) + 256 * (c5 + c6) + 65536 * ((c6 + c7) + 256 * c7))) := by omega
  have q3 : ∀ a b r : Nat, a ≤ 16 → b ≤ 16 → (a + 256 * b + 65536 * r) / 65536 = r := by intro a b r ha hb; omega
  have q4 : ∀ a b c d r : Nat, a ≤ 32 → b ≤ 32 → c ≤ 32 → d ≤ 32 → (a + 256 * b + 65536 * (c + 256 * d + 65536 * r)) / 4294967296 = r := by intro a b c d r ha hb hc hd; omega
  unfold fold3
  rw [q1, q2, q3 _ _ _ (by omega) (by omega)]
  have q5 : (c0 + c1) + 256 * (c1 + c2) + 65536 * ((c2 + c3) + 256 * (c3 + c4) + 65536 * ((c4 + c5) + 256 * (c5 + c6) + 65536 * ((c6 + c7) + 256 * c7))) + ((c2 + c3) + 256 * (c3 + c4) + 65536 * ((c4 + c5) + 256 * (c5 + c6) + 65536 * ((c6 + c7) + 256 * c7))) =
      (c0 + c1 + c2 + c3) + 256 * (c1 + c2 + c3 + c4) + 65536 * ((c2 + c3 + c4 + c5) + 256 * (c3 + c4 + c5 + c6) + 65536 * ((c4 + c5 + c6 + c7) + 256 * (c5 + c6 + c7) + 65536 * ((c6 + c7) + 256 * c7))) := by omega
  rw [q5, q4 _ _ _ _ _ (by omega) (by omega) (by omega) (by omega)]
  omega

theorem swar (n : Nat) (hn : n < 18446744073709551616) : fold3 (f3 8 (f2 8 (f1 8 n))) % 128 = pc n ∧ f3 8 (f2 8 (f1 8 n)) < 1152921504606846976 := by
  obtain ⟨b0, r0, e0, hb0⟩ : ∃ b r, n = b + 256 * r ∧ b < 256 := ⟨n % 256, n / 256, by omega, by omega⟩
  obtain ⟨b1, r1, e1, hb1⟩ : ∃ b r, r0 = b + 256 * r ∧ b < 256 := ⟨r0 % 256, r0 / 256, by omega, by omega⟩
  obtain ⟨b2, r2, e2, hb2⟩ : ∃ b r, r1 = b + 256 * r ∧ b < 256 := ⟨r1 % 256, r1 / 256, by omega, by omega⟩
  obtain ⟨b3, r3, e3, hb3⟩ : ∃ b r, r2 = b + 256 * r ∧ b < 256 := ⟨r2 % 256, r2 / 256, by omega, by omega⟩
  obtain ⟨b4, r4, e4, hb4⟩ : ∃ b r, r3 = b + 256 * r ∧ b < 256 := ⟨r3 % 256, r3 / 256, by omega, by omega⟩
  obtain ⟨b5, r5, e5, hb5⟩ : ∃ b r, r4 = b + 256 * r ∧ b < 256 := ⟨r4 % 256, r4 / 256, by omega, by omega⟩
  obtain ⟨b6, r6, e6, hb6⟩ : ∃ b r, r5 = b + 256 * r ∧ b < 256 := ⟨r5 % 256, r5 / 256, by omega, by omega⟩
  obtain ⟨b7, r7, e7, hb7⟩ : ∃ b r, r6 = b + 256 * r ∧ b < 256 := ⟨r6 % 256, r6 / 256, by omega, by omega⟩
  have e8 : r7 = 0 := by omega
  have hz : f3 0 (f2 0 (f1 0 r7)) = 0 := by simp [f3, mask]
  have hF : f3 8 (f2 8 (f1 8 n)) = pcF 8 b0 + 256 * (pcF 8 b1 + 256 * (pcF 8 b2 + 256 * (pcF 8 b3 + 256 * (pcF 8 b4 + 256 * (pcF 8 b5 + 256 * (pcF 8 b6 + 256 * pcF 8 b7)))))) := by
    rw [e0, f_step 7 _ _ hb0, e1, f_step 6 _ _ hb1, e2, f_step 5 _ _ hb2, e3, f_step 4 _ _ hb3, e4, f_step 3 _ _ hb4, e5, f_step 2 _ _ hb5, e6, f_step 1 _ _ hb6, e7, f_step 0 _ _ hb7, hz, Nat.mul_zero, Nat.add_zero]
  have l0 := pcF_le 8 b0
  have l1 := pcF_le 8 b1
  have l2 := pcF_le 8 b2
  have l3 := pcF_le 8 b3
  have l4 := pcF_le 8 b4
  have l5 := pcF_le 8 b5
  have l6 := pcF_le 8 b6
  have l7 := pcF_le 8 b7
  have hp : pc n = pcF 8 b0 + pcF 8 b1 + pcF 8 b2 + pcF 8 b3 + pcF 8 b4 + pcF 8 b5 + pcF 8 b6 + pcF 8 b7 := by
    have st : ∀ k b r, b < 256 → pcF (8 + k) (b + 256 * r) = pcF 8 b + pcF k r := by
      intro k b r hb
      rw [pcF_split, show b + 256 * r = b + 2 ^ 8 * r from rfl, pcF_add, show (b + 2 ^ 8 * r) / 2 ^ 8 = r by omega]
    unfold pc
    rw [e0, show (64 : Nat) = 8 + 56 from rfl, st 56 _ _ hb0, e1, show (56 : Nat) = 8 + 48 from rfl, st 48 _ _ hb1, e2, show (48 : Nat) = 8 + 40 from rfl, st 40 _ _ hb2, e3, show (40 : Nat) = 8 + 32 from rfl, st 32 _ _ hb3, e4, show (32 : Nat) = 8 + 24 from rfl, st 24 _ _ hb4, e5, show (24 : Nat) = 8 + 16 from rfl, st 16 _ _ hb5, e6, show (16 : Nat) = 8 + 8 from rfl, st 8 _ _ hb6, e7, show pcF 8 (b7 + 256 * r7) = pcF (8 + 0) (b7 + 256 * r7) from rfl, st 0 _ _ hb7]
    simp only [pcF, Nat.add_zero]
    omega
  rw [hF]
  refine ⟨?_, by omega⟩
  rw [fold3_eq _ _ _ _ _ _ _ _ l0 l1 l2 l3 l4 l5 l6 l7, hp]
end Go.Proofs.Qxb6615730a
