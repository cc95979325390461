/-
  The proof of 'Rows.FnSweepPaceRegimesSaid': the guide's shell, its walk filled.
-/
import Derived.Test.Qxb6604572aRows
import Derived.Test.Qxb6604572aPace
import Derived.Deep.QuietTactic
import Derived.BigQuiet
import Derived.WalkKit
import Derived.ProofKit
import Derived.OpenShut
import Derived.ShutString
namespace Go.Proofs.Qxb6604572a.fnSweepPaceRegimes
open Go.ChangeShapes Go.WideShapes Go.ChangeAt Go.RowKit
open Go.ChangeMaps (open_string shut_string)
open Plain
set_option linter.unusedVariables false      -- a walk need not use every 'w<i>' (that an integer argument fits its kind)

theorem own : ownKnob Try.prog.godebug = none := by kernel_rfl

/-! ### THE PLAIN LAW: no Go in sight -/
theorem big (d : Int) (h : 4000000 ≤ d) (hd' : d ≤ 9223372036854775807) : d ≤ 4 * pace d ∧ 4 * pace d < d + 4 ∧ cdiv d (pace d) = 4 := by
  have s := cdiv_spec (a := d) (b := 4) (by omega)
  have b := pace_bd d hd'
  have e : pace d = cdiv d 4 := pace_high (by omega)
  have k1 : d ≤ 4 * pace d := by omega
  have k2 : 4 * pace d < d + 4 := by omega
  exact ⟨k1, k2, cdiv_of (by omega) k1 (by omega)⟩
theorem small (d : Int) (hd : 1 ≤ d) (h : d < 4000000) : pace d = 1000000 ∧ d ≤ cdiv d 1000000 * 1000000 ∧ (cdiv d 1000000 - 1) * 1000000 < d ∧ 1 ≤ cdiv d 1000000 ∧ cdiv d 1000000 ≤ 4 := by
  have s := cdiv_spec (a := d) (b := 4) (by omega)
  have t := cdiv_spec (a := d) (b := 1000000) (by omega)
  have e : pace d = 1000000 := by
    by_cases k : cdiv d 4 < 1000000
    · exact pace_low k
    · rw [pace_high k]; omega
  exact ⟨e, t.1, t.2, by omega, by omega⟩

theorem ret_true {b : Bool} (h : b = true) : Ending.returned (.bool b) = .returned (.bool true) := by rw [h]

/-! ### STEP 1: THE WALK: the Go text returns true. 'Grown w w'': the world has at most new blocks (Derived/RowKit3.lean). Part the cases AHEAD of 'go_enter' where a test parts the walk; take each callee by a contract of your own. -/
theorem walk (a0 : Int) (w0 : (Lit.int .i64 a0).wf = true) (w : World) :
    Calls Try.prog 6 #[.int .i64 a0] w fun e w' => e = .returned (.bool true) ∧ Grown w w' := by
  obtain ⟨l0, u0⟩ := bounds_i64 w0
  by_cases h1 : a0 < 0
  · go_enter Try.func6, Try.ntmps6
    go_wp2
    go_ret
    exact ⟨rfl, Grown.refl _⟩
  by_cases h2 : a0 = 0
  · subst h2
    go_enter Try.func6, Try.ntmps6
    go_wp2_with (go_at_call 9; refine (sweepPace_zero _).mono ?_; rintro e w' ⟨rfl, rfl⟩)
    go_ret
    exact ⟨rfl, Grown.refl _⟩
  have h3 : 1 ≤ a0 := by omega
  clear h1 h2
  have c3 := IntWalk.u64_in a0 ⟨by omega, by omega⟩
  by_cases h4 : a0 < 4000000
  · obtain ⟨e, k1, k2, k3, k4⟩ := small a0 h3 h4
    have k := sweepPace_any a0 w h3 u0
    rw [e] at k
    clear e
    go_enter Try.func6, Try.ntmps6
    go_wp2_with (go_at_call 9; refine k.mono ?_; rintro e w' ⟨rfl, rfl⟩)
    go_ret
    exact ⟨ret_true (by simp only [decide_eq_true_eq]; omega), Grown.refl _⟩
  · have h5 : 4000000 ≤ a0 := by omega
    clear h4
    obtain ⟨k1, k2, k3⟩ := big a0 h5 u0
    obtain ⟨b1, b2⟩ := pace_bd a0 u0
    have c4 := IntWalk.u64_in (pace a0) ⟨by omega, by omega⟩
    have k := sweepPace_any a0 w h3 u0
    rw [k3] at k
    clear k3
    go_enter Try.func6, Try.ntmps6
    go_wp2_with (go_at_call 9; refine k.mono ?_; rintro e w' ⟨rfl, rfl⟩)
    go_ret
    exact ⟨ret_true (by simp only [decide_eq_true_eq]; omega), Grown.refl _⟩

/-! ### THE ROW's STEP: WRITTEN OUT: LEAVE IT -/
set_option maxRecDepth 100000 in
theorem lifted (os : Os) (started : os.Started) (H : Type) (enc : TypeId × Value → H) :
    ReturnsInHanded {} Try.checked os 6 .any (Rows.fnSweepPaceRegimesSpec.pre6 enc Try.prog Try.f6 Rows.fnSweepPaceRegimesRow.domain false) (Rows.fnSweepPaceRegimesSpec.post enc Try.prog Try.f6 false true false false) := by
  refine returnsInHanded_of_change (C := Try.checked) own started (by kernel_rfl) Try.func6
    (ChangeSpec.witness6 (enc := enc) (C := Try.checked) false ⟨#[], #[.int .i64 0], []⟩ 8 (by kernel_rfl) (by kernel_rfl) (by kernel_rfl) (by kernel_rfl)) ?_
  intro W base args ds gs before hval0 hW hcnd _
  have hval : ∀ (j : Nat) t v, Try.f6.params[j]? = some t → args[j]? = some v → Value.okWide Try.prog W .any base t v := hval0
  have hW' := hW
  obtain ⟨p, q, hA0, hV, rfl, hfz, hnd⟩ := hW
  have hA : DataW.TrodAll enc Try.prog W 0 (fun _ => true) true Try.f6.params.toList args.toList ds p := hA0
  rw [Try.params6] at hA hval
  obtain ⟨v0, vs0, d0, ds0, p0, q0, hargs, rfl, rfl, h0, r0⟩ := trodAll_cons hA
  obtain ⟨rfl, rfl, rfl⟩ := trodAll_nil r0
  obtain rfl : args = #[v0] := by cases args; simp_all
  obtain ⟨rfl, rfl⟩ := trodVars_none hV
  obtain ⟨a0, rfl, rfl, rfl, w0⟩ := open_int Try.underlying2 (hval 0 2 v0 rfl rfl) h0
  clear hA0 hval0
  simp only [List.append_nil] at hW'
  refine (walk a0 w0 W).mono fun e W' ⟨he, hg⟩ => ?_
  subst he
  exact ⟨_, rfl, post_of_same (pa := []) (pv := []) hW' (fun _ _ _ => (trodAll_cons_mk (shut_bool Try.underlying4 _) trodAll_mk0)) (fun sp _ => (trodAll_cons_mk (shut_int Try.underlying2 w0) trodAll_mk0)) (fun _ _ => rfl) rfl
    (hg.frame _) hg.2.1 (ok_one (by kernel_rfl) rfl (okWide_bool_mk Try.underlying4 _))⟩

theorem over : Rows.fnSweepPaceRegimesRow.holds Try.pinned (OpenSpec.ofChange Rows.fnSweepPaceRegimesSpec) :=
  OpenClaim.holds_of_wide 6 Try.f6 rfl rfl rfl rfl rfl rfl rfl ⟨rfl, rfl, rfl, rfl, rfl⟩ rfl rfl rfl rfl rfl (by kernel_rfl) Try.func6 (by kernel_rfl)
    (of_decide_eq_true (by kernel_rfl)) (by unfold Func.isWrapper; first | (rw [if_pos (by decide +kernel)]; kernel_rfl) | (rw [if_neg (by decide +kernel)]; exact ⟨rfl, rfl⟩))
    (fun os started H enc _ => lifted os started H enc)

/-- ████ THE STATEMENT ████ -/
theorem proved : Rows.FnSweepPaceRegimesSaid :=
  over
end Go.Proofs.Qxb6604572a.fnSweepPaceRegimes
