/-
  The contracts of the shared functions of the seat b6604572a: ceilDiv, ZZceilDiv, sweepPace, ZZsweepPace, prodAtLeast.
-/
import Derived.Test.Qxb6604572aRows
import Derived.Test.Qxb6604572aPlain
import Derived.WalkKit
import Derived.WalkSpells
import Derived.RowKit3
namespace Go.Proofs.Qxb6604572a
open Go.RowKit Plain

theorem ceilDiv_any (a b : Int) (w : World) (ha : 1 ≤ a) (hb : 1 ≤ b) (ha' : a ≤ 9223372036854775807) (hb' : b ≤ 9223372036854775807) :
    Calls Try.prog 10 #[.int .i64 a, .int .i64 b] w fun e w' => e = .returned (.int .i64 (cdiv a b)) ∧ w' = w := by
  obtain ⟨q0, q1⟩ := div_le (a := a) (b := b) (by omega) hb
  have L := cdiv_le ha hb
  by_cases h : a % b = 0
  · rw [cdiv_zero h] at *
    have h' : (a % b != 0) = false := by simp [h]
    clear h
    go_enter Try.func10, Try.ntmps10
    go_wp2
    go_ret
    exact ⟨rfl, rfl⟩
  · rw [cdiv_succ h] at *
    have h' : (a % b != 0) = true := by simp [h]
    clear h
    go_enter Try.func10, Try.ntmps10
    go_wp2
    go_ret
    exact ⟨rfl, rfl⟩

theorem zzCeilDiv_any (a b : Int) (w : World) (ha : 1 ≤ a) (hb : 1 ≤ b) (ha' : a ≤ 9223372036854775807) (hb' : b ≤ 9223372036854775807) :
    Calls Try.prog 7 #[.int .i64 a, .int .i64 b] w fun e w' => e = .returned (.int .i64 (cdiv a b)) ∧ w' = w := by
  go_enter Try.func7, Try.ntmps7
  go_wp2_with (go_at_call 10; refine (ceilDiv_any a b _ ha hb ha' hb').mono ?_; rintro e w' ⟨rfl, rfl⟩)
  go_ret
  exact ⟨rfl, rfl⟩

theorem pal_zero_left (b c : Int) (hc : 0 ≤ c) : pal 0 b c = (c == 0) := by
  unfold pal; rw [Int.zero_mul, Bool.eq_iff_iff]; simp; omega
theorem pal_zero_right (a c : Int) (hc : 0 ≤ c) : pal a 0 c = (c == 0) := by
  unfold pal; rw [Int.mul_zero, Bool.eq_iff_iff]; simp; omega
theorem pal_high (a b c : Int) (hb : 1 ≤ b) (hc' : c ≤ 18446744073709551615) (h : 18446744073709551615 / b < a) : pal a b c = true := by
  have h2 : 18446744073709551615 < (18446744073709551615 / b + 1) * b := Int.lt_ediv_add_one_mul_self _ (by omega)
  have h3 : (18446744073709551615 / b + 1) * b ≤ a * b := Int.mul_le_mul_of_nonneg_right (by omega) (by omega)
  unfold pal
  simp only [decide_eq_true_eq]
  omega
theorem pal_low (a b : Int) (ha : 0 ≤ a) (hb : 1 ≤ b) (h : a ≤ 18446744073709551615 / b) : 0 ≤ a * b ∧ a * b ≤ 18446744073709551615 := by
  have h1 : 18446744073709551615 / b * b ≤ 18446744073709551615 := Int.ediv_mul_le _ (by omega)
  have h3 : a * b ≤ 18446744073709551615 / b * b := Int.mul_le_mul_of_nonneg_right h (by omega)
  exact ⟨Int.mul_nonneg ha (by omega), by omega⟩

theorem prodAtLeast_any (a b c : Int) (w : World) (ha : 0 ≤ a) (hb : 0 ≤ b) (hc : 0 ≤ c) (_ha' : a ≤ 18446744073709551615) (hb' : b ≤ 18446744073709551615) (hc' : c ≤ 18446744073709551615) :
    Calls Try.prog 8 #[.int .u64 a, .int .u64 b, .int .u64 c] w fun e w' => e = .returned (.bool (pal a b c)) ∧ w' = w := by
  by_cases h1 : a = 0
  · subst h1
    rw [pal_zero_left b c hc]
    go_enter Try.func8, Try.ntmps8
    go_wp2
    go_ret
    exact ⟨rfl, rfl⟩
  have e1 : (a == 0) = false := by simp [h1]
  by_cases h2 : b = 0
  · subst h2
    rw [pal_zero_right a c hc]
    go_enter Try.func8, Try.ntmps8
    go_wp2
    go_ret
    exact ⟨rfl, rfl⟩
  have e2 : (b == 0) = false := by simp [h2]
  have q0 := (div_le (a := 18446744073709551615) (b := b) (by omega) (by omega)).1
  have q1 := (div_le (a := 18446744073709551615) (b := b) (by omega) (by omega)).2
  by_cases h3 : 18446744073709551615 / b < a
  · rw [pal_high a b c (by omega) hc' h3]
    go_enter Try.func8, Try.ntmps8
    go_wp2
    go_ret
    exact ⟨rfl, rfl⟩
  · obtain ⟨m0, m1⟩ := pal_low a b ha (by omega) (by omega)
    unfold pal
    go_enter Try.func8, Try.ntmps8
    go_wp2
    go_ret
    exact ⟨rfl, rfl⟩

theorem sweepPace_zero (w : World) :
    Calls Try.prog 9 #[.int .i64 0] w fun e w' => e = .returned (.tuple #[.int .i64 0, .int .u64 0]) ∧ w' = w := by
  go_enter Try.func9, Try.ntmps9
  go_wp2
  go_ret2
  exact ⟨rfl, rfl⟩

theorem sweepPace_in (d : Int) (w : World) (hd : 1 ≤ d) (hd' : d ≤ 9223372036854775807) :
    Calls Try.prog 11 #[.int .i64 d] w fun e w' => e = .returned (.tuple #[.int .i64 (pace d), .int .u64 (cdiv d (pace d))]) ∧ w' = w := by
  obtain ⟨p0, p1⟩ := pace_bd d hd'
  have c0 := cdiv_pos (a := d) (b := pace d) hd (by omega)
  have c1 := cdiv_le (a := d) (b := pace d) hd (by omega)
  have z0 := cdiv_pos (a := d) (b := 4) hd (by omega)
  have z1 := cdiv_le (a := d) (b := 4) hd (by omega)
  by_cases h : cdiv d 4 < 1000000
  · rw [pace_low h] at *
    have e := IntWalk.u64_in (cdiv d 1000000) ⟨by omega, by omega⟩
    go_enter Try.func11, Try.ntmps11
    go_wp2_with (go_at_call 10; refine (ceilDiv_any d _ _ hd ?_ hd' ?_).mono ?_; omega; omega; rintro e w' ⟨rfl, rfl⟩)
    go_ret2
    exact ⟨rfl, rfl⟩
  · rw [pace_high h] at *
    have e := IntWalk.u64_in (cdiv d (cdiv d 4)) ⟨by omega, by omega⟩
    go_enter Try.func11, Try.ntmps11
    go_wp2_with (go_at_call 10; refine (ceilDiv_any d _ _ hd ?_ hd' ?_).mono ?_; omega; omega; rintro e w' ⟨rfl, rfl⟩)
    go_ret2
    exact ⟨rfl, rfl⟩

theorem sweepPace_any (d : Int) (w : World) (hd : 1 ≤ d) (hd' : d ≤ 9223372036854775807) :
    Calls Try.prog 9 #[.int .i64 d] w fun e w' => e = .returned (.tuple #[.int .i64 (pace d), .int .u64 (cdiv d (pace d))]) ∧ w' = w := by
  go_enter Try.func9, Try.ntmps9
  go_wp2_with (go_at_call 11; refine (sweepPace_in d _ hd hd').mono ?_; rintro e w' ⟨rfl, rfl⟩)
  go_ret2
  exact ⟨rfl, rfl⟩
end Go.Proofs.Qxb6604572a
