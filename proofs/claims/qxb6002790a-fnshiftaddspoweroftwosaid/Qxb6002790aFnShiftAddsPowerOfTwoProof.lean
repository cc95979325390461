/-
  The proof of 'Rows.FnShiftAddsPowerOfTwoSaid': the guide's frame, for an argument of the type [20]byte beside integers; the walk filled.
-/
import Derived.Test.Qxb6002790aRows
import Derived.Test.Qxb6002790aAddsUp
import Derived.Test.Qxb6002790aAddsDown
import Derived.Test.Qxb6002790aOpen
import Derived.WalkKit
import Derived.ProofKit
import Derived.OpenShut
import Derived.ShutString
import Derived.ChangeOld
import Derived.Below
namespace Go.Proofs.Qxb6002790a.fnShiftAddsPowerOfTwo
open Go.ChangeShapes Go.WideShapes Go.ChangeAt Go.RowKit
open Plain
set_option linter.unusedVariables false

theorem own : ownKnob Try.prog.godebug = none := by kernel_rfl
theorem laidOut : laidOutB Try.prog = true := by kernel_rfl

theorem walk (a0 a2 a3 : Int) (w : World) (w0 : (Lit.int .i64 a0).wf = true) {c : Array Value} {N : Nat} (hc : IsId c N) (w2 : (Lit.int .i64 a2).wf = true) (w3 : (Lit.int .i64 a3).wf = true) :
    Calls Try.prog 7 #[.int .i64 a0, .agg c, .int .i64 a2, .int .i64 a3] w fun e w' => e = .returned (.bool true) ∧ Below w.heap.size w w' := by
  obtain ⟨l0, u0⟩ := bounds_i64 w0
  obtain ⟨l2, u2⟩ := bounds_i64 w2
  obtain ⟨l3, u3⟩ := bounds_i64 w3
  clear w0 w2 w3
  by_cases g1 : a0 < 0
  · clear hc
    go_enter Try.func7, Try.ntmps7
    go_wp2
    go_ret
    exact ⟨rfl, (Below.refl _ _).alloc (Nat.le_refl _) _⟩
  by_cases g2 : 160 < a0
  · clear hc
    go_enter Try.func7, Try.ntmps7
    go_wp2
    go_ret
    exact ⟨rfl, (Below.refl _ _).alloc (Nat.le_refl _) _⟩
  by_cases g3 : a2 < 0
  · clear hc
    go_enter Try.func7, Try.ntmps7
    go_wp2
    go_ret
    exact ⟨rfl, (Below.refl _ _).alloc (Nat.le_refl _) _⟩
  by_cases g5 : a3 = 1
  · subst g5
    obtain ⟨B, rfl⟩ := Int.eq_ofNat_of_zero_le (show 0 ≤ a0 by omega)
    obtain ⟨I, rfl⟩ := Int.eq_ofNat_of_zero_le (show 0 ≤ a2 by omega)
    by_cases h : I < 160
    · exact adds_up_lo hc B I w (by omega) (by omega) h
    · exact adds_up_hi hc B I w (by omega) (by omega) (by omega)
  by_cases g6 : a3 = -1
  · subst g6
    obtain ⟨B, rfl⟩ := Int.eq_ofNat_of_zero_le (show 0 ≤ a0 by omega)
    obtain ⟨I, rfl⟩ := Int.eq_ofNat_of_zero_le (show 0 ≤ a2 by omega)
    by_cases h : I < 160
    · exact adds_down_lo hc B I w (by omega) (by omega) h
    · exact adds_down_hi hc B I w (by omega) (by omega) (by omega)
  · have e5 : (a3 != 1) = true := by simp [g5]
    have e6 : (a3 != -1) = true := by simp [g6]
    clear hc g5 g6
    go_enter Try.func7, Try.ntmps7
    go_wp2
    go_ret
    exact ⟨rfl, (Below.refl _ _).alloc (Nat.le_refl _) _⟩

/-! ### The row's step -/
set_option maxRecDepth 100000 in
theorem lifted (os : Os) (started : os.Started) (H : Type) (enc : TypeId × Value → H) :
    ReturnsInHanded {} Try.checked os 7 .any (Rows.fnShiftAddsPowerOfTwoSpec.pre6 enc Try.prog Try.f7 Rows.fnShiftAddsPowerOfTwoRow.domain false) (Rows.fnShiftAddsPowerOfTwoSpec.post enc Try.prog Try.f7 false true false false) := by
  refine returnsInHanded_of_change (C := Try.checked) own started (by kernel_rfl) Try.func7
    (ChangeSpec.witness6 (enc := enc) (C := Try.checked) false ⟨#[], #[.int .i64 0, .agg #[.int .u8 0, .int .u8 0, .int .u8 0, .int .u8 0, .int .u8 0, .int .u8 0, .int .u8 0, .int .u8 0, .int .u8 0, .int .u8 0, .int .u8 0, .int .u8 0, .int .u8 0, .int .u8 0, .int .u8 0, .int .u8 0, .int .u8 0, .int .u8 0, .int .u8 0, .int .u8 0], .int .i64 0, .int .i64 0], []⟩ 8 (by kernel_rfl) (by kernel_rfl) (by kernel_rfl) (by kernel_rfl)) ?_
  intro W base args ds gs before hval0 hW hcnd _
  have hval : ∀ (j : Nat) t v, Try.f7.params[j]? = some t → args[j]? = some v → Value.okWide Try.prog W .any base t v := hval0
  have hW' := hW
  obtain ⟨p, q, hA0, hV, rfl, hfz, hnd⟩ := hW
  have hA : DataW.TrodAll enc Try.prog W 0 (fun _ => true) true Try.f7.params.toList args.toList ds p := hA0
  rw [Try.params7] at hA hval
  obtain ⟨v0, vs0, d0, ds0, p0, q0, hargs, rfl, rfl, h0, r0⟩ := trodAll_cons hA
  obtain ⟨v1, vs1, d1, ds1, p1, q1, rfl, rfl, rfl, h1, r1⟩ := trodAll_cons r0
  obtain ⟨v2, vs2, d2, ds2, p2, q2, rfl, rfl, rfl, h2, r2⟩ := trodAll_cons r1
  obtain ⟨v3, vs3, d3, ds3, p3, q3, rfl, rfl, rfl, h3, r3⟩ := trodAll_cons r2
  obtain ⟨rfl, rfl, rfl⟩ := trodAll_nil r3
  obtain rfl : args = #[v0, v1, v2, v3] := by cases args; simp_all
  obtain ⟨rfl, rfl⟩ := trodVars_none hV
  obtain ⟨a0, rfl, rfl, rfl, w0⟩ := open_int Try.underlying3 (hval 0 3 v0 rfl rfl) h0
  have k1 := h1
  have lt1 : ∀ x ∈ p1, x.block < W.heap.size := by obtain ⟨m, hm⟩ := k1; exact DataW.trod_lt m _ _ _ hm
  obtain ⟨c1, N1, rfl, hc1⟩ := open_id (hval 1 24 v1 rfl rfl) h1
  obtain ⟨a2, rfl, rfl, rfl, w2⟩ := open_int Try.underlying3 (hval 2 3 v2 rfl rfl) h2
  obtain ⟨a3, rfl, rfl, rfl, w3⟩ := open_int Try.underlying3 (hval 3 3 v3 rfl rfl) h3
  clear hA0 hval0
  refine (walk a0 a2 a3 W w0 hc1 w2 w3).mono fun e W' ⟨he, bel⟩ => ?_
  subst he
  exact ⟨_, rfl, _, _, _, [], _, [], hW', trodAll_mk1 (shut_bool Try.underlying4 _), (trodAll_cons_mk (shut_int Try.underlying3 w0) (trodAll_cons_mk (Below.trod laidOut (by kernel_rfl) (of_decide_eq_true (by kernel_rfl)) k1 bel lt1) (trodAll_cons_mk (shut_int Try.underlying3 w2) (trodAll_cons_mk (shut_int Try.underlying3 w3) trodAll_mk0)))), rfl, bel.frame _, fun h => by cases h⟩

theorem over : Rows.fnShiftAddsPowerOfTwoRow.holds Try.pinned (OpenSpec.ofChange Rows.fnShiftAddsPowerOfTwoSpec) :=
  OpenClaim.holds_of_wide 7 Try.f7 rfl rfl rfl rfl rfl rfl rfl ⟨rfl, rfl, rfl, rfl, rfl⟩ rfl rfl rfl rfl rfl (by kernel_rfl) Try.func7 (by kernel_rfl)
    (of_decide_eq_true (by kernel_rfl)) (by unfold Func.isWrapper; first | (rw [if_pos (by decide +kernel)]; kernel_rfl) | (rw [if_neg (by decide +kernel)]; exact ⟨rfl, rfl⟩))
    (fun os started H enc _ => lifted os started H enc)

/-- The statement. -/
theorem proved : Rows.FnShiftAddsPowerOfTwoSaid := over
end Go.Proofs.Qxb6002790a.fnShiftAddsPowerOfTwo
