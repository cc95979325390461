/-
  The proof of 'Rows.FnSweepPaceLeastPaceSaid': the guide's shell, its walk filled.
-/
import Derived.Test.Qxb6604572aRows
import Derived.Test.Qxb6604572aPace
import Derived.Deep.QuietTactic
import Derived.BigQuiet
import Derived.WalkKit
import Derived.ProofKit
import Derived.OpenShut
import Derived.ShutString
namespace Go.Proofs.Qxb6604572a.fnSweepPaceLeastPace
open Go.ChangeShapes Go.WideShapes Go.ChangeAt Go.RowKit
open Go.ChangeMaps (open_string shut_string)
open Plain
set_option linter.unusedVariables false      -- a walk need not use every 'w<i>' (that an integer argument fits its kind)

theorem own : ownKnob Try.prog.godebug = none := by kernel_rfl

/-! ### THE PLAIN LAW: no Go in sight -/
theorem facts (d : Int) (hd : 1 ≤ d) (hd' : d ≤ 9223372036854775807) : d ≤ 4 * pace d ∧ cdiv d (pace d) ≤ 4 ∧ (pace d ≠ 1000000 → 4 * (pace d - 1) < d) := by
  have s := cdiv_spec (a := d) (b := 4) (by omega)
  have b := pace_bd d hd'
  have k1 : d ≤ 4 * pace d := by
    by_cases k : cdiv d 4 < 1000000
    · rw [pace_low k]; omega
    · rw [pace_high k]; omega
  refine ⟨k1, ?_, ?_⟩
  · have g := (cdiv_spec (a := d) (b := pace d) (by omega)).2
    have k2 : cdiv d (pace d) - 1 < 4 := Int.lt_of_mul_lt_mul_right (Int.lt_of_lt_of_le g k1) (by omega)
    omega
  · intro h
    by_cases k : cdiv d 4 < 1000000
    · exact absurd (pace_low k) h
    · rw [pace_high k]; omega
theorem rounds (a b : Int) (hb : 1 ≤ b) : pal (cdiv a b) b a = true ∧ pal (cdiv a b - 1) b a = false := by
  have s := cdiv_spec (a := a) hb
  unfold pal
  exact ⟨by simp only [decide_eq_true_eq]; exact s.1, by simp only [decide_eq_false_iff_not]; omega⟩


/-! ### STEP 1: THE WALK: the Go text returns true. 'Grown w w'': the world has at most new blocks (Derived/RowKit3.lean). Part the cases AHEAD of 'go_enter' where a test parts the walk; take each callee by a contract of your own. -/
theorem walk (a0 : Int) (w0 : (Lit.int .i64 a0).wf = true) (w : World) :
    Calls Try.prog 5 #[.int .i64 a0] w fun e w' => e = .returned (.bool true) ∧ Grown w w' := by
  obtain ⟨l0, u0⟩ := bounds_i64 w0
  by_cases h1 : a0 < 0
  · go_enter Try.func5, Try.ntmps5
    go_wp2
    go_ret
    exact ⟨rfl, Grown.refl _⟩
  by_cases h2 : a0 = 0
  · subst h2
    go_enter Try.func5, Try.ntmps5
    go_wp2_with (go_at_call 9; refine (sweepPace_zero _).mono ?_; rintro e w' ⟨rfl, rfl⟩)
    go_ret
    exact ⟨rfl, Grown.refl _⟩
  have h3 : 1 ≤ a0 := by omega
  clear h1 h2
  obtain ⟨f1, f2, f3⟩ := facts a0 h3 u0
  obtain ⟨b1, b2⟩ := pace_bd a0 u0
  obtain ⟨e1, e2⟩ := rounds a0 (pace a0) (by omega)
  have e3 : pal 4 (pace a0) a0 = true := by unfold pal; simp only [decide_eq_true_eq]; omega
  have q0 := cdiv_pos (a := a0) (b := pace a0) h3 (by omega)
  have c3 := IntWalk.u64_in a0 ⟨by omega, by omega⟩
  have c4 := IntWalk.u64_in (pace a0) ⟨by omega, by omega⟩
  have k := sweepPace_any a0 w h3 u0
  by_cases h4 : pace a0 = 1000000
  · clear f3
    rw [h4] at f1 f2 e1 e2 e3 q0 c4 k
    clear h4 b1 b2
    go_enter Try.func5, Try.ntmps5
    go_wp2_with (first | (go_at_call 9; refine k.mono ?_; rintro e w' ⟨rfl, rfl⟩) | (go_at_call 8; refine (prodAtLeast_any _ _ _ _ ?_ ?_ ?_ ?_ ?_ ?_).mono ?_; omega; omega; omega; omega; omega; omega; rintro e w' ⟨rfl, rfl⟩))
    go_ret
    exact ⟨rfl, Grown.refl _⟩
  · have h5 : (pace a0 == 1000000) = false := by simp [h4]
    have e4 : pal 4 (pace a0 - 1) a0 = false := by unfold pal; simp only [decide_eq_false_iff_not]; have := f3 h4; omega
    clear f3 h4
    go_enter Try.func5, Try.ntmps5
    go_wp2_with (first | (go_at_call 9; refine k.mono ?_; rintro e w' ⟨rfl, rfl⟩) | (go_at_call 8; refine (prodAtLeast_any _ _ _ _ ?_ ?_ ?_ ?_ ?_ ?_).mono ?_; omega; omega; omega; omega; omega; omega; rintro e w' ⟨rfl, rfl⟩))
    go_ret
    exact ⟨rfl, Grown.refl _⟩

/-! ### THE ROW's STEP: WRITTEN OUT: LEAVE IT -/
set_option maxRecDepth 100000 in
theorem lifted (os : Os) (started : os.Started) (H : Type) (enc : TypeId × Value → H) :
    ReturnsInHanded {} Try.checked os 5 .any (Rows.fnSweepPaceLeastPaceSpec.pre6 enc Try.prog Try.f5 Rows.fnSweepPaceLeastPaceRow.domain false) (Rows.fnSweepPaceLeastPaceSpec.post enc Try.prog Try.f5 false true false false) := by
  refine returnsInHanded_of_change (C := Try.checked) own started (by kernel_rfl) Try.func5
    (ChangeSpec.witness6 (enc := enc) (C := Try.checked) false ⟨#[], #[.int .i64 0], []⟩ 8 (by kernel_rfl) (by kernel_rfl) (by kernel_rfl) (by kernel_rfl)) ?_
  intro W base args ds gs before hval0 hW hcnd _
  have hval : ∀ (j : Nat) t v, Try.f5.params[j]? = some t → args[j]? = some v → Value.okWide Try.prog W .any base t v := hval0
  have hW' := hW
  obtain ⟨p, q, hA0, hV, rfl, hfz, hnd⟩ := hW
  have hA : DataW.TrodAll enc Try.prog W 0 (fun _ => true) true Try.f5.params.toList args.toList ds p := hA0
  rw [Try.params5] at hA hval
  obtain ⟨v0, vs0, d0, ds0, p0, q0, hargs, rfl, rfl, h0, r0⟩ := trodAll_cons hA
  obtain ⟨rfl, rfl, rfl⟩ := trodAll_nil r0
  obtain rfl : args = #[v0] := by cases args; simp_all
  obtain ⟨rfl, rfl⟩ := trodVars_none hV
  obtain ⟨a0, rfl, rfl, rfl, w0⟩ := open_int Try.underlying2 (hval 0 2 v0 rfl rfl) h0
  clear hA0 hval0
  simp only [List.append_nil] at hW'
  refine (walk a0 w0 W).mono fun e W' ⟨he, hg⟩ => ?_
  subst he
  exact ⟨_, rfl, post_of_same (pa := []) (pv := []) hW' (fun _ _ _ => (trodAll_cons_mk (shut_bool Try.underlying4 _) trodAll_mk0)) (fun sp _ => (trodAll_cons_mk (shut_int Try.underlying2 w0) trodAll_mk0)) (fun _ _ => rfl) rfl
    (hg.frame _) hg.2.1 (ok_one (by kernel_rfl) rfl (okWide_bool_mk Try.underlying4 _))⟩

theorem over : Rows.fnSweepPaceLeastPaceRow.holds Try.pinned (OpenSpec.ofChange Rows.fnSweepPaceLeastPaceSpec) :=
  OpenClaim.holds_of_wide 5 Try.f5 rfl rfl rfl rfl rfl rfl rfl ⟨rfl, rfl, rfl, rfl, rfl⟩ rfl rfl rfl rfl rfl (by kernel_rfl) Try.func5 (by kernel_rfl)
    (of_decide_eq_true (by kernel_rfl)) (by unfold Func.isWrapper; first | (rw [if_pos (by decide +kernel)]; kernel_rfl) | (rw [if_neg (by decide +kernel)]; exact ⟨rfl, rfl⟩))
    (fun os started H enc _ => lifted os started H enc)

/-- ████ THE STATEMENT ████ -/
theorem proved : Rows.FnSweepPaceLeastPaceSaid :=
  over
end Go.Proofs.Qxb6604572a.fnSweepPaceLeastPace
