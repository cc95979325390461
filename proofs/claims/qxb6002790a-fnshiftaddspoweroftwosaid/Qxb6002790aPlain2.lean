/-
  Plain arithmetic for the seat b6002790a: one added or taken away at bit i, modulo 2^b. No Go in sight.
-/
import Derived.Test.Qxb6002790aPlain
namespace Go.Proofs.Qxb6002790a.Plain

/-- N + s * 2^i modulo 2^b. -/
def shiftTo (N i : Nat) (s : Int) (b : Nat) : Nat := (((N : Int) + s * 2 ^ i) % 2 ^ b).toNat

theorem two_pow_cast (n : Nat) : (2 : Int) ^ n = ((2 ^ n : Nat) : Int) := by simp
theorem two_pow_posI (n : Nat) : (0 : Int) < 2 ^ n := by rw [two_pow_cast]; exact Int.natCast_pos.mpr (Nat.two_pow_pos n)
theorem two_pow_dvd {m n : Nat} (h : m ≤ n) : (2 : Int) ^ m ∣ 2 ^ n := by
  rw [two_pow_cast, two_pow_cast]; exact Int.natCast_dvd_natCast.mpr (Nat.pow_dvd_pow 2 h)

theorem shiftTo_cast (N i : Nat) (s : Int) (b : Nat) : ((shiftTo N i s b : Nat) : Int) = ((N : Int) + s * 2 ^ i) % 2 ^ b := by
  unfold shiftTo
  exact Int.toNat_of_nonneg (Int.emod_nonneg _ (by have := two_pow_posI b; omega))

theorem shiftTo_lt (N i : Nat) (s : Int) {b : Nat} (hb : b ≤ 160) : shiftTo N i s b < 2 ^ 160 := by
  have h := Int.emod_lt_of_pos ((N : Int) + s * 2 ^ i) (two_pow_posI b)
  have e := shiftTo_cast N i s b
  have l : 2 ^ b ≤ 2 ^ 160 := Nat.pow_le_pow_right (by decide) hb
  rw [← e, two_pow_cast] at h
  omega

/-- The number with one byte stored. -/
theorem sb_val (M k b : Nat) : ((sb M k b : Nat) : Int) = (M : Int) + 2 ^ (8 * (19 - k)) * ((b : Int) - byteAt M k) := by
  have e := split_byte M k
  have e' : ((M : Nat) : Int) = ((sb M k (byteAt M k) : Nat) : Int) := by rw [← e]
  rw [e']
  unfold sb
  rw [two_pow_cast]
  generalize 2 ^ (8 * (19 - k)) = X
  generalize 2 ^ (8 * (19 - k) + 8) * (M / 2 ^ (8 * (19 - k) + 8)) = Y
  generalize M % X = R
  generalize byteAt M k = c
  simp only [Int.natCast_add, Int.natCast_mul, Int.mul_sub]
  omega

theorem inv_step (M k : Nat) (ch : Int) : ((sb M k (((byteAt M k : Int) + ch) % 256).toNat : Nat) : Int) + (((byteAt M k : Int) + ch) / 256) * 2 ^ (8 * (19 - k) + 8) = M + ch * 2 ^ (8 * (19 - k)) := by
  rw [sb_val]
  generalize byteAt M k = c
  have e1 := Int.mul_ediv_add_emod ((c : Int) + ch) 256
  have e2 : (((((c : Int) + ch) % 256).toNat : Nat) : Int) = ((c : Int) + ch) % 256 := Int.toNat_of_nonneg (Int.emod_nonneg _ (by decide))
  rw [e2, Int.pow_add]
  generalize ((c : Int) + ch) % 256 = r at *
  generalize ((c : Int) + ch) / 256 = q at *
  generalize (2 : Int) ^ (8 * (19 - k)) = X
  have e3 : r = c + ch - 256 * q := by omega
  subst e3
  rw [show (2 : Int) ^ 8 = 256 from rfl, Int.mul_sub, Int.mul_sub, Int.mul_add, Int.mul_comm ch X, ← Int.mul_assoc q X 256, Int.mul_comm X (256 * q), Int.mul_assoc 256 q X, Int.mul_comm (q * X) 256]
  omega

theorem inv_end {M e b : Nat} {ch T : Int} (h : ((M : Int) + ch * 2 ^ (8 * e)) % 2 ^ 160 = T % 2 ^ 160) (hz : ch = 0 ∨ 20 ≤ e) (hb : b ≤ 160) : M % 2 ^ b = (T % 2 ^ b).toNat := by
  have hd : (2 : Int) ^ 160 ∣ ch * 2 ^ (8 * e) := by
    rcases hz with rfl | hz
    · rw [Int.zero_mul]; exact Int.dvd_zero _
    · exact Int.dvd_trans (two_pow_dvd (by omega)) (Int.dvd_mul_left _ _)
  have h2 : (M : Int) % 2 ^ 160 = T % 2 ^ 160 := by
    rw [← h, Int.add_emod, Int.emod_eq_zero_of_dvd hd, Int.add_zero, Int.emod_emod_of_dvd _ (Int.dvd_refl _)]
  have h3 : (M : Int) % 2 ^ b = T % 2 ^ b := by
    rw [← Int.emod_emod_of_dvd (M : Int) (two_pow_dvd hb), h2, Int.emod_emod_of_dvd T (two_pow_dvd hb)]
  rw [← h3, two_pow_cast, ← Int.natCast_emod, Int.toNat_natCast]

/-! ### The laws -/
theorem shift_back (N i : Nat) (s : Int) (b : Nat) : shiftTo (shiftTo N i s b) i (-s) b = N % 2 ^ b := by
  have e : ((shiftTo (shiftTo N i s b) i (-s) b : Nat) : Int) = ((N % 2 ^ b : Nat) : Int) := by
    rw [shiftTo_cast, shiftTo_cast, Int.emod_add_emod, Int.natCast_emod, ← two_pow_cast]
    congr 1
    rw [Int.neg_mul]
    omega
  exact Int.ofNat.inj e

theorem shift_twice (N i : Nat) (s : Int) (b : Nat) : shiftTo (shiftTo N i s b) i s b = shiftTo N (i + 1) s b := by
  have e : ((shiftTo (shiftTo N i s b) i s b : Nat) : Int) = ((shiftTo N (i + 1) s b : Nat) : Int) := by
    rw [shiftTo_cast, shiftTo_cast, shiftTo_cast, Int.emod_add_emod]
    congr 1
    rw [Int.pow_succ, ← Int.mul_assoc]
    omega
  exact Int.ofNat.inj e

theorem shift_turns (N i : Nat) (s : Int) (b : Nat) (hs : s = 1 ∨ s = -1) (hi : i < b) : shiftTo N i s b ≠ N % 2 ^ b := by
  intro h
  have e : ((N : Int) + s * 2 ^ i) % 2 ^ b = (N : Int) % 2 ^ b := by
    rw [← shiftTo_cast, h, Int.natCast_emod, ← two_pow_cast]
  have d : (2 : Int) ^ b ∣ s * 2 ^ i := by
    have k := Int.emod_eq_emod_iff_emod_sub_eq_zero.mp e
    rw [show (N : Int) + s * 2 ^ i - N = s * 2 ^ i by omega] at k
    exact Int.dvd_of_emod_eq_zero k
  have d' : (2 : Int) ^ b ∣ 2 ^ i := by
    rcases hs with rfl | rfl
    · rwa [Int.one_mul] at d
    · rw [Int.neg_mul, Int.one_mul] at d; exact (Int.dvd_neg).mp d
  have l := Int.le_of_dvd (two_pow_posI i) d'
  rw [two_pow_cast, two_pow_cast] at l
  have g : 2 ^ i < 2 ^ b := Nat.pow_lt_pow_right (by decide) hi
  omega

end Go.Proofs.Qxb6002790a.Plain
