/-
  Plain arithmetic for the seat b6604572a: no Go in sight.
-/
namespace Go.Proofs.Qxb6604572a.Plain

/-- a divided by b, rounded up. -/
def cdiv (a b : Int) : Int := if a % b = 0 then a / b else a / b + 1

/-- Is the product a*b at least c? -/
def pal (a b c : Int) : Bool := decide (c ≤ a * b)

theorem cdiv_zero {a b : Int} (h : a % b = 0) : cdiv a b = a / b := by unfold cdiv; rw [if_pos h]
theorem cdiv_succ {a b : Int} (h : ¬ a % b = 0) : cdiv a b = a / b + 1 := by unfold cdiv; rw [if_neg h]

/-- The two bounds that say all: (q-1)*b < a ≤ q*b. -/
theorem cdiv_spec {a b : Int} (hb : 1 ≤ b) : a ≤ cdiv a b * b ∧ (cdiv a b - 1) * b < a := by
  have e := Int.mul_ediv_add_emod a b
  have p := Int.emod_nonneg a (show b ≠ 0 by omega)
  have l := Int.emod_lt_of_pos a (show 0 < b by omega)
  have c := Int.mul_comm b (a / b)
  by_cases h : a % b = 0
  · rw [cdiv_zero h, Int.sub_mul]; omega
  · rw [cdiv_succ h, Int.add_mul, Int.add_sub_cancel]; omega

/-- What lies between the two bounds is cdiv. -/
theorem cdiv_of {a b q : Int} (hb : 1 ≤ b) (h1 : a ≤ q * b) (h2 : (q - 1) * b < a) : cdiv a b = q := by
  obtain ⟨g1, g2⟩ := cdiv_spec (a := a) hb
  have k1 : cdiv a b - 1 < q := Int.lt_of_mul_lt_mul_right (Int.lt_of_lt_of_le g2 h1) (by omega)
  have k2 : q - 1 < cdiv a b := Int.lt_of_mul_lt_mul_right (Int.lt_of_lt_of_le h2 g1) (by omega)
  omega

theorem cdiv_pos {a b : Int} (ha : 1 ≤ a) (hb : 1 ≤ b) : 1 ≤ cdiv a b := by
  obtain ⟨g1, _⟩ := cdiv_spec (a := a) hb
  have k : 0 < cdiv a b := Int.pos_of_mul_pos_left (show 0 < cdiv a b * b by omega) (by omega)
  omega

theorem div_le {a b : Int} (ha : 0 ≤ a) (_hb : 1 ≤ b) : 0 ≤ a / b ∧ a / b ≤ a :=
  ⟨Int.ediv_nonneg ha (by omega), Int.ediv_le_self b ha⟩

theorem cdiv_le {a b : Int} (ha : 1 ≤ a) (hb : 1 ≤ b) : cdiv a b ≤ a := by
  by_cases h : b = 1
  · subst h; unfold cdiv; simp
  · have d : a / b < a := Int.ediv_lt_self_of_pos_of_ne_one (by omega) h
    unfold cdiv; split <;> omega

/-- The time between two rounds. -/
def pace (d : Int) : Int := if cdiv d 4 < 1000000 then 1000000 else cdiv d 4

theorem pace_low {d : Int} (h : cdiv d 4 < 1000000) : pace d = 1000000 := by unfold pace; rw [if_pos h]
theorem pace_high {d : Int} (h : ¬ cdiv d 4 < 1000000) : pace d = cdiv d 4 := by unfold pace; rw [if_neg h]
theorem pace_bd (d : Int) (hd' : d ≤ 9223372036854775807) : 1000000 ≤ pace d ∧ pace d ≤ 2305843009213693952 := by
  have s := (cdiv_spec (a := d) (b := 4) (by omega)).2
  by_cases h : cdiv d 4 < 1000000
  · rw [pace_low h]; omega
  · rw [pace_high h]; omega

end Go.Proofs.Qxb6604572a.Plain
