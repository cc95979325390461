/-
  Plain arithmetic for the seat b6002790a: a 20-byte big-endian number, its bytes and its bits. No Go in sight.
-/
namespace Go.Proofs.Qxb6002790a.Plain

/-- Byte k (0 the left-most) of the 20-byte number N. -/
def byteAt (N k : Nat) : Nat := N / 2 ^ (8 * (19 - k)) % 256

theorem byteAt_lt (N k : Nat) : byteAt N k < 256 := Nat.mod_lt _ (by decide)

theorem testBit_byteAt (N k j : Nat) : (byteAt N k).testBit j = (decide (j < 8) && N.testBit (8 * (19 - k) + j)) := by
  unfold byteAt
  rw [show (256 : Nat) = 2 ^ 8 from rfl, Nat.testBit_mod_two_pow, Nat.testBit_div_two_pow]
  rw [Nat.add_comm]

theorem testBit_of_byteAt (N q : Nat) (h : q < 160) : N.testBit q = (byteAt N (19 - q / 8)).testBit (q % 8) := by
  rw [testBit_byteAt]
  have e : 8 * (19 - (19 - q / 8)) + q % 8 = q := by omega
  rw [e]
  simp [Nat.mod_lt]

theorem testBit_high {N q : Nat} (hN : N < 2 ^ 160) (h : 160 ≤ q) : N.testBit q = false :=
  Nat.testBit_lt_two_pow (Nat.lt_of_lt_of_le hN (Nat.pow_le_pow_right (by decide) h))

/-- Two numbers with the same bytes are one. -/
theorem byteAt_ext {N M : Nat} (hN : N < 2 ^ 160) (hM : M < 2 ^ 160) (h : ∀ k, k < 20 → byteAt N k = byteAt M k) : N = M := by
  apply Nat.eq_of_testBit_eq
  intro q
  by_cases hq : q < 160
  · rw [testBit_of_byteAt N q hq, testBit_of_byteAt M q hq, h _ (by omega)]
  · rw [testBit_high hN (by omega), testBit_high hM (by omega)]

/-- Bit p of N, read off its byte. -/
theorem bit_byte (N p : Nat) (hp : p < 160) : byteAt N (19 - p / 8) / 2 ^ (p % 8) % 2 = N / 2 ^ p % 2 := by
  have h := testBit_of_byteAt N p hp
  rw [Nat.testBit_eq_decide_div_mod_eq, Nat.testBit_eq_decide_div_mod_eq, decide_eq_decide] at h
  omega

/-! ### One bit set to v -/
def wb (N p v : Nat) : Nat := 2 ^ (p + 1) * (N / 2 ^ (p + 1)) + (2 ^ p * v + N % 2 ^ p)

theorem testBit_wb (N p v q : Nat) (hv : v < 2) : (wb N p v).testBit q = if q = p then decide (v = 1) else N.testBit q := by
  have hl : 2 ^ p * v + N % 2 ^ p < 2 ^ (p + 1) := by
    have h1 : N % 2 ^ p < 2 ^ p := Nat.mod_lt _ (Nat.two_pow_pos p)
    have h2 : 2 ^ p * v ≤ 2 ^ p * 1 := Nat.mul_le_mul_left _ (by omega)
    rw [Nat.pow_succ]; omega
  unfold wb
  rw [Nat.testBit_two_pow_mul_add _ hl, Nat.testBit_two_pow_mul_add _ (Nat.mod_lt _ (Nat.two_pow_pos p)), Nat.testBit_mod_two_pow, Nat.testBit_div_two_pow]
  by_cases h1 : q < p
  · simp [h1, show q < p + 1 by omega, show ¬ q = p by omega]
  · by_cases h2 : q = p
    · subst h2
      have : v = 0 ∨ v = 1 := by omega
      rcases this with rfl | rfl <;> simp
    · simp [show ¬ q < p + 1 by omega, h2, show q - (p + 1) + (p + 1) = q by omega]

theorem split_bit (N p : Nat) : N = wb N p (N / 2 ^ p % 2) := by
  unfold wb
  have e1 := Nat.div_add_mod N (2 ^ p)
  have e2 := Nat.div_add_mod (N / 2 ^ p) 2
  rw [Nat.div_div_eq_div_mul, ← Nat.pow_succ] at e2
  generalize N / 2 ^ p % 2 = b at *
  generalize N / 2 ^ (p + 1) = q at *
  rw [← e2] at e1
  rw [Nat.pow_succ, Nat.mul_assoc, ← Nat.add_assoc, ← Nat.mul_add]
  exact e1.symm

theorem wb_one (N p : Nat) (h : N / 2 ^ p % 2 = 0) : wb N p 1 = N + 2 ^ p := by
  have e := split_bit N p
  rw [h] at e
  conv => rhs; rw [e]
  unfold wb; omega
theorem wb_zero (N p : Nat) (h : N / 2 ^ p % 2 = 1) : wb N p 0 + 2 ^ p = N := by
  have e := split_bit N p
  rw [h] at e
  conv => rhs; rw [e]
  unfold wb; omega
theorem wb_same (N p v : Nat) (h : N / 2 ^ p % 2 = v) : wb N p v = N := by
  subst h; exact (split_bit N p).symm

theorem lt_of_bits {M : Nat} (h : ∀ q, 160 ≤ q → M.testBit q = false) : M < 2 ^ 160 :=
  Nat.lt_pow_two_of_testBit M h

theorem wb_lt {N p v : Nat} (hN : N < 2 ^ 160) (hp : p < 160) (hv : v < 2) : wb N p v < 2 ^ 160 := by
  apply lt_of_bits
  intro q hq
  rw [testBit_wb N p v q hv, if_neg (by omega), testBit_high hN hq]

theorem byteAt_wb_other (N p v k : Nat) (hv : v < 2) (hp : p < 160) (hk : k < 20) (h : k ≠ 19 - p / 8) : byteAt (wb N p v) k = byteAt N k := by
  apply Nat.eq_of_testBit_eq
  intro j
  rw [testBit_byteAt, testBit_byteAt, testBit_wb _ _ _ _ hv]
  by_cases hj : j < 8
  · rw [if_neg (by omega)]
  · simp [hj]

theorem byteAt_wb_one (N p : Nat) (hp : p < 160) : byteAt (wb N p 1) (19 - p / 8) = byteAt N (19 - p / 8) ||| 2 ^ (p % 8) := by
  apply Nat.eq_of_testBit_eq
  intro j
  rw [Nat.testBit_or, testBit_byteAt, testBit_byteAt, testBit_wb _ _ _ _ (by omega), Nat.testBit_two_pow]
  by_cases hj : j < 8
  · by_cases he : p % 8 = j
    · rw [if_pos (by omega)]; simp [hj, he]
    · rw [if_neg (by omega)]; simp [he]
  · simp [hj, show ¬ p % 8 = j by omega]

theorem byteAt_wb_zero (N p : Nat) (hp : p < 160) : byteAt (wb N p 0) (19 - p / 8) = byteAt N (19 - p / 8) &&& (255 - 2 ^ (p % 8)) := by
  have key : ∀ r, r < 8 → ∀ j, j < 8 → (255 - 2 ^ r).testBit j = !decide (r = j) := by decide
  apply Nat.eq_of_testBit_eq
  intro j
  rw [Nat.testBit_and, testBit_byteAt, testBit_byteAt, testBit_wb _ _ _ _ (by omega)]
  by_cases hj : j < 8
  · rw [key _ (Nat.mod_lt _ (by decide)) j hj]
    by_cases he : p % 8 = j
    · rw [if_pos (by omega)]; simp [he]
    · rw [if_neg (by omega)]; simp [he]
  · simp [hj]

/-! ### The high bits cleared -/
theorem testBit_mod (N b q : Nat) : (N % 2 ^ b).testBit q = (decide (q < b) && N.testBit q) := Nat.testBit_mod_two_pow N b q

theorem byteAt_mod_zero (N b k : Nat) (hb : b ≤ 160) (hk : k < (160 - b) / 8) : byteAt (N % 2 ^ b) k = 0 := by
  apply Nat.eq_of_testBit_eq
  intro j
  rw [testBit_byteAt, testBit_mod, Nat.zero_testBit]
  simp [show ¬ 8 * (19 - k) + j < b by omega]

theorem byteAt_mod_part (N b : Nat) (hb : b ≤ 160) (hr : (160 - b) % 8 ≠ 0) : byteAt (N % 2 ^ b) ((160 - b) / 8) = byteAt N ((160 - b) / 8) &&& (255 / 2 ^ ((160 - b) % 8)) := by
  have key : ∀ r, r < 8 → ∀ j, j < 8 → (255 / 2 ^ r).testBit j = decide (j < 8 - r) := by decide
  apply Nat.eq_of_testBit_eq
  intro j
  rw [Nat.testBit_and, testBit_byteAt, testBit_byteAt, testBit_mod]
  by_cases hj : j < 8
  · rw [key _ (Nat.mod_lt _ (by decide)) j hj]
    have e : (8 * (19 - (160 - b) / 8) + j < b) ↔ (j < 8 - (160 - b) % 8) := by omega
    simp [hj, e, Bool.and_comm]
  · simp [hj]

theorem byteAt_mod_same (N b k : Nat) (hb : b ≤ 160) (hk : k < 20) (h : (160 - b) / 8 < k ∨ (160 - b) % 8 = 0 ∧ (160 - b) / 8 ≤ k) : byteAt (N % 2 ^ b) k = byteAt N k := by
  apply Nat.eq_of_testBit_eq
  intro j
  rw [testBit_byteAt, testBit_byteAt, testBit_mod]
  by_cases hj : j < 8
  · simp [show 8 * (19 - k) + j < b by omega]
  · simp [hj]

theorem byteAt_clr (N i k : Nat) (hi : i ≤ 20) (hk : k < 20) : byteAt (N % 2 ^ (160 - 8 * i)) k = if k < i then 0 else byteAt N k := by
  by_cases h : k < i
  · rw [if_pos h]; exact byteAt_mod_zero N _ k (by omega) (by omega)
  · rw [if_neg h]; exact byteAt_mod_same N _ k (by omega) hk (by omega)

/-! ### One byte set -/
def sb (N k b : Nat) : Nat := 2 ^ (8 * (19 - k) + 8) * (N / 2 ^ (8 * (19 - k) + 8)) + (2 ^ (8 * (19 - k)) * b + N % 2 ^ (8 * (19 - k)))

theorem testBit_sb (N k b q : Nat) (hb : b < 256) : (sb N k b).testBit q =
    if q < 8 * (19 - k) then N.testBit q else if q < 8 * (19 - k) + 8 then b.testBit (q - 8 * (19 - k)) else N.testBit q := by
  unfold sb
  generalize 8 * (19 - k) = s
  have h1 : N % 2 ^ s < 2 ^ s := Nat.mod_lt _ (Nat.two_pow_pos s)
  have hl : 2 ^ s * b + N % 2 ^ s < 2 ^ (s + 8) := by
    have h2 : 2 ^ s * b ≤ 2 ^ s * 255 := Nat.mul_le_mul_left _ (by omega)
    rw [Nat.pow_add]; omega
  rw [Nat.testBit_two_pow_mul_add _ hl, Nat.testBit_two_pow_mul_add _ h1, Nat.testBit_mod_two_pow, Nat.testBit_div_two_pow]
  by_cases c1 : q < s
  · simp [c1, show q < s + 8 by omega]
  · by_cases c2 : q < s + 8
    · simp [c1, c2]
    · simp [c1, c2, show q - (s + 8) + (s + 8) = q by omega]

theorem byteAt_sb_same (N k b : Nat) (hb : b < 256) : byteAt (sb N k b) k = b := by
  apply Nat.eq_of_testBit_eq
  intro j
  rw [testBit_byteAt, testBit_sb _ _ _ _ hb, if_neg (by omega)]
  by_cases hj : j < 8
  · rw [if_pos (by omega)]; simp [hj, show 8 * (19 - k) + j - 8 * (19 - k) = j by omega]
  · simp [hj]
    have : b.testBit j = false := Nat.testBit_lt_two_pow (Nat.lt_of_lt_of_le hb (show 2 ^ 8 ≤ 2 ^ j from Nat.pow_le_pow_right (by decide) (by omega)))
    exact this

theorem byteAt_sb_other (N k b k' : Nat) (hb : b < 256) (hk : k < 20) (hk' : k' < 20) (h : k' ≠ k) : byteAt (sb N k b) k' = byteAt N k' := by
  apply Nat.eq_of_testBit_eq
  intro j
  rw [testBit_byteAt, testBit_byteAt, testBit_sb _ _ _ _ hb]
  by_cases hj : j < 8
  · by_cases c : k < k'
    · rw [if_pos (by omega)]
    · rw [if_neg (by omega), if_neg (by omega)]
  · simp [hj]

theorem split_byte (N k : Nat) : N = sb N k (byteAt N k) := by
  unfold sb byteAt
  generalize 8 * (19 - k) = s
  have e1 := Nat.div_add_mod N (2 ^ s)
  have e2 := Nat.div_add_mod (N / 2 ^ s) 256
  rw [Nat.div_div_eq_div_mul, show (256 : Nat) = 2 ^ 8 from rfl, ← Nat.pow_add] at e2
  rw [show (256 : Nat) = 2 ^ 8 from rfl]
  generalize N / 2 ^ s % 2 ^ 8 = b at *
  generalize N / 2 ^ (s + 8) = q at *
  rw [← e2] at e1
  rw [Nat.pow_add, Nat.mul_assoc, ← Nat.add_assoc, ← Nat.mul_add]
  exact e1.symm

theorem sb_lt {N k b : Nat} (hN : N < 2 ^ 160) (hk : k < 20) (hb : b < 256) : sb N k b < 2 ^ 160 := by
  apply lt_of_bits
  intro q hq
  rw [testBit_sb _ _ _ _ hb, if_neg (by omega), if_neg (by omega), testBit_high hN hq]

/-- Any twenty bytes are the bytes of a number. -/
theorem of_bytes (f : Nat → Nat) (hf : ∀ i, i < 20 → f i < 256) : ∃ N, N < 2 ^ 160 ∧ ∀ i, i < 20 → byteAt N i = f i := by
  have key : ∀ k, k ≤ 20 → ∃ N, N < 2 ^ 160 ∧ ∀ i, i < k → byteAt N i = f i := by
    intro k
    induction k with
    | zero => intro _; exact ⟨0, Nat.two_pow_pos _, fun i hi => absurd hi (by omega)⟩
    | succ k ih =>
      intro hk
      obtain ⟨N, hN, h⟩ := ih (by omega)
      refine ⟨sb N k (f k), sb_lt hN (by omega) (hf k (by omega)), fun i hi => ?_⟩
      by_cases e : i = k
      · subst e; exact byteAt_sb_same N i _ (hf i (by omega))
      · rw [byteAt_sb_other N k _ i (hf k (by omega)) (by omega) (by omega) e, h i (by omega)]
  exact key 20 (Nat.le_refl _)

/-! ### The order -/
theorem high_same {N M k : Nat} (hN : N < 2 ^ 160) (hM : M < 2 ^ 160) (hk : k < 20) (h : ∀ j, j < k → byteAt N j = byteAt M j) : N / 2 ^ (8 * (19 - k) + 8) = M / 2 ^ (8 * (19 - k) + 8) := by
  apply Nat.eq_of_testBit_eq
  intro i
  rw [Nat.testBit_div_two_pow, Nat.testBit_div_two_pow]
  by_cases hq : i + (8 * (19 - k) + 8) < 160
  · rw [testBit_of_byteAt N _ hq, testBit_of_byteAt M _ hq, h _ (by omega)]
  · rw [testBit_high hN (by omega), testBit_high hM (by omega)]

/-- Where the bytes before it are the same, the lesser number's byte is not the greater. -/
theorem byte_le {N M k : Nat} (hN : N < 2 ^ 160) (hM : M < 2 ^ 160) (hle : N ≤ M) (hk : k < 20) (h : ∀ j, j < k → byteAt N j = byteAt M j) : byteAt N k ≤ byteAt M k := by
  have e := high_same hN hM hk h
  have l := Nat.div_le_div_right (c := 2 ^ (8 * (19 - k))) hle
  have a := Nat.div_add_mod (N / 2 ^ (8 * (19 - k))) 256
  have b := Nat.div_add_mod (M / 2 ^ (8 * (19 - k))) 256
  rw [Nat.div_div_eq_div_mul, show (256 : Nat) = 2 ^ 8 from rfl, ← Nat.pow_add] at a b
  unfold byteAt
  rw [show (256 : Nat) = 2 ^ 8 from rfl]
  rw [e] at a
  omega

end Go.Proofs.Qxb6002790a.Plain
