/-
  Plain arithmetic for FnShiftAddsPowerOfTwo: the carry that ripples; the high bits cleared one by one. No Go in sight.
-/
import Derived.Test.Qxb6002790aPlain2
namespace Go.Proofs.Qxb6002790a.Plain

/-- The bits from b up to p cleared. -/
def clr (M b p : Nat) : Nat := M % 2 ^ b + 2 ^ p * (M / 2 ^ p)

theorem clr_start (M b : Nat) : clr M b b = M := Nat.mod_add_div M (2 ^ b)
theorem clr_end {M b : Nat} (hM : M < 2 ^ 160) : clr M b 160 = M % 2 ^ b := by
  unfold clr; rw [Nat.div_eq_of_lt hM, Nat.mul_zero, Nat.add_zero]
theorem clr_step' (M b p : Nat) (h : b ≤ p) : wb (clr M b p) p 0 = clr M b (p + 1) := by
  have l1 : M % 2 ^ b < 2 ^ b := Nat.mod_lt _ (Nat.two_pow_pos b)
  have l2 : 2 ^ b ≤ 2 ^ p := Nat.pow_le_pow_right (by decide) h
  have l : M % 2 ^ b < 2 ^ p := Nat.lt_of_lt_of_le l1 l2
  have e1 : clr M b p % 2 ^ p = M % 2 ^ b := by
    unfold clr; rw [Nat.add_mul_mod_self_left, Nat.mod_eq_of_lt l]
  have e2 : clr M b p / 2 ^ (p + 1) = M / 2 ^ (p + 1) := by
    unfold clr
    rw [Nat.pow_succ, ← Nat.div_div_eq_div_mul, Nat.add_mul_div_left _ _ (Nat.two_pow_pos p), Nat.div_eq_of_lt l, Nat.zero_add, Nat.div_div_eq_div_mul]
  unfold wb
  rw [e1, e2]
  unfold clr
  omega

/-! ### The carry (sign 1) and the borrow (sign -1) -/
theorem up_stop {M p : Nat} {T : Int} (hb : M / 2 ^ p % 2 = 0) (h : ((M : Int) + 1 * 2 ^ p) % 2 ^ 160 = T % 2 ^ 160) : ((wb M p 1 : Nat) : Int) % 2 ^ 160 = T % 2 ^ 160 := by
  rw [wb_one M p hb, ← h, Int.natCast_add, ← two_pow_cast, Int.one_mul]
theorem up_next {M p : Nat} {T : Int} (hb : M / 2 ^ p % 2 = 1) (h : ((M : Int) + 1 * 2 ^ p) % 2 ^ 160 = T % 2 ^ 160) : (((wb M p 0 : Nat) : Int) + 1 * 2 ^ (p + 1)) % 2 ^ 160 = T % 2 ^ 160 := by
  have e := wb_zero M p hb
  have e' : ((M : Nat) : Int) = ((wb M p 0 + 2 ^ p : Nat) : Int) := by rw [e]
  rw [← h, e', Int.natCast_add, ← two_pow_cast, Int.pow_succ]
  congr 1
  omega
theorem down_stop {M p : Nat} {T : Int} (hb : M / 2 ^ p % 2 = 1) (h : ((M : Int) + -1 * 2 ^ p) % 2 ^ 160 = T % 2 ^ 160) : ((wb M p 0 : Nat) : Int) % 2 ^ 160 = T % 2 ^ 160 := by
  have e := wb_zero M p hb
  have e' : ((M : Nat) : Int) = ((wb M p 0 + 2 ^ p : Nat) : Int) := by rw [e]
  rw [← h, e', Int.natCast_add, ← two_pow_cast]
  congr 1
  omega
theorem down_next {M p : Nat} {T : Int} (hb : M / 2 ^ p % 2 = 0) (h : ((M : Int) + -1 * 2 ^ p) % 2 ^ 160 = T % 2 ^ 160) : (((wb M p 1 : Nat) : Int) + -1 * 2 ^ (p + 1)) % 2 ^ 160 = T % 2 ^ 160 := by
  rw [wb_one M p hb, ← h, Int.natCast_add, ← two_pow_cast, Int.pow_succ]
  congr 1
  omega
/-- What passes the top falls away. -/
theorem past_top {M p : Nat} {s T : Int} (hp : 160 ≤ p) (h : ((M : Int) + s * 2 ^ p) % 2 ^ 160 = T % 2 ^ 160) : (M : Int) % 2 ^ 160 = T % 2 ^ 160 := by
  have hd : (2 : Int) ^ 160 ∣ s * 2 ^ p := Int.dvd_trans (two_pow_dvd hp) (Int.dvd_mul_left _ _)
  rw [← h, Int.add_emod, Int.emod_eq_zero_of_dvd hd, Int.add_zero, Int.emod_emod_of_dvd _ (Int.dvd_refl _)]
theorem reduced {M b : Nat} {T : Int} (hb : b ≤ 160) (h : (M : Int) % 2 ^ 160 = T % 2 ^ 160) : M % 2 ^ b = (T % 2 ^ b).toNat :=
  inv_end (e := 0) (ch := 0) (by rw [Int.zero_mul, Int.add_zero]; exact h) (.inl rfl) hb

/-! ### The same under names -/
/-- M is N + s * 2^I, modulo 2^160. -/
def Reaches (M N I : Nat) (s : Int) : Prop := (M : Int) % 2 ^ 160 = ((N : Int) + s * 2 ^ I) % 2 ^ 160
/-- M still owes s * 2^p. -/
def Owes (M p N I : Nat) (s : Int) : Prop := ((M : Int) + s * 2 ^ p) % 2 ^ 160 = ((N : Int) + s * 2 ^ I) % 2 ^ 160
theorem Owes.start (N I : Nat) (s : Int) : Owes N I N I s := rfl
theorem Owes.up_stop {M p N I : Nat} (h : Owes M p N I 1) (hb : M / 2 ^ p % 2 = 0) : Reaches (wb M p 1) N I 1 := Plain.up_stop hb h
theorem Owes.up_next {M p N I : Nat} (h : Owes M p N I 1) (hb : M / 2 ^ p % 2 = 1) : Owes (wb M p 0) (p + 1) N I 1 := Plain.up_next hb h
theorem Owes.down_stop {M p N I : Nat} (h : Owes M p N I (-1)) (hb : M / 2 ^ p % 2 = 1) : Reaches (wb M p 0) N I (-1) := Plain.down_stop hb h
theorem Owes.down_next {M p N I : Nat} (h : Owes M p N I (-1)) (hb : M / 2 ^ p % 2 = 0) : Owes (wb M p 1) (p + 1) N I (-1) := Plain.down_next hb h
theorem Owes.past {M p N I : Nat} {s : Int} (h : Owes M p N I s) (hp : 160 ≤ p) : Reaches M N I s := past_top hp h
theorem Reaches.mod {M N I b : Nat} {s : Int} (h : Reaches M N I s) (hb : b ≤ 160) : M % 2 ^ b = shiftTo N I s b := reduced hb h

end Go.Proofs.Qxb6002790a.Plain
