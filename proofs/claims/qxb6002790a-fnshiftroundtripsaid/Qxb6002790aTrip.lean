/-
  The walk of FnShiftRoundTrip, for both signs.
-/
import Derived.Test.Qxb6002790aShift
namespace Go.Proofs.Qxb6002790a
open Go.RowKit Plain
set_option linter.unusedVariables false

set_option maxHeartbeats 16000000 in
theorem trip_up {c : Array Value} {N : Nat} (hc : IsId c N) (B I : Nat) (w : World) (hB1 : 1 ≤ B) (hB2 : B ≤ 160) (hI : I < B) :
    Calls Try.prog 8 #[.int .i64 B, .agg c, .int .i64 I, .int .i64 (1)] w fun e w' => e = .returned (.bool true) ∧ Below w.heap.size w w' := by
  go_enter Try.func8, Try.ntmps8
  go_upto_region 9 with (first
    | (go_at_call 12; refine (makeSpace_any _ _).mono ?_; rintro e w1 ⟨rfl, hb1⟩)
    | (with_reducible refine at_load24 ?_; refine load24g hc rfl rfl rfl ?hg ?_; case hg => exact Row.old (Row.kept (Row.new rfl) hb1))
    | (with_reducible refine at_store27 ?_; refine store27 hc rfl rfl rfl rfl ?hg ?_; case hg => (refine Row.room (Row.new ?_) rfl; simp; done)))
  refine wp_gen (fun W => Row W w1.heap.size #[.int .i64 B] ∧ Row W (w1.heap.size + 1) c ∧ Below w.heap.size w W) ⟨Row.apart (by simp) (Row.old (Row.new rfl)), Row.stored (Row.new (by simp)), below_setRow (kept_alloc (kept_alloc (kept (kept_alloc (Below.refl _ w) _) hb1) _) _) (by have := hb1.size; simp at this; omega) _⟩ ?_
  clear hb1
  generalize w1.heap.size = G
  simp only [Act.put]
  rintro W ⟨R9, R10, hB⟩
  have hcl9 : W.cell? ⟨G, 0, none⟩ = some (.int .i64 B) := R9.cell
  have hlt9 := R9.lt
  go_cut [11] (fun s wn => ∃ (g : Nat) (d : Array Value), s = .pointer (some ⟨g, 0, none⟩) ∧ IsId d (N % 2 ^ B) ∧ Row wn g d ∧ Below W.heap.size W wn)
  case first =>
    have hnew : ∀ V : World, Room (V.alloc (.cells #[.int .u8 0, .int .u8 0, .int .u8 0, .int .u8 0, .int .u8 0, .int .u8 0, .int .u8 0, .int .u8 0, .int .u8 0, .int .u8 0, .int .u8 0, .int .u8 0, .int .u8 0, .int .u8 0, .int .u8 0, .int .u8 0, .int .u8 0, .int .u8 0, .int .u8 0, .int .u8 0] 27)) V.heap.size := fun V => Room.new rfl
    go_region_with (go_at_call 13; refine (reduce_id B hB2 hc (G + 1) _ ?_).mono ?_; (first | exact Row.drew R10 | exact Row.drew (Row.old R10)); rintro e w2 ⟨d, hd, rfl, hb2⟩; have hdz := hd.size; have hst := store_rule hd; (try have hrA := Room.kept (Room.drew (hnew W)) hb2))
    all_goals
      go_wp2_with fail
      go_meet
      case rel =>
        have hz20 : (#[.int .u8 0, .int .u8 0, .int .u8 0, .int .u8 0, .int .u8 0, .int .u8 0, .int .u8 0, .int .u8 0, .int .u8 0, .int .u8 0, .int .u8 0, .int .u8 0, .int .u8 0, .int .u8 0, .int .u8 0, .int .u8 0, .int .u8 0, .int .u8 0, .int .u8 0, .int .u8 0] : Array Value).size = 20 := rfl
        first | with_reducible exact ⟨_, d, rfl, hd, meet_after hz20 hb2⟩ | with_reducible exact ⟨_, d, rfl, hd, meet_ahead hz20 hb2⟩
  case rest =>
    obtain ⟨g11, d11, rfl, hd11, R11, hb11⟩ := hcut
    replace R9 := R9.kept hb11
    replace R10 := R10.kept hb11
    replace hB := kept hB hb11
    clear hb11 hcl9 hlt9
    have hcl9 : wc.cell? ⟨G, 0, none⟩ = some (.int .i64 B) := R9.cell
    go_upto_region 11 with (first
      | (with_reducible refine at_load27 ?_; refine load27g hc rfl rfl rfl R10 ?_)
      | (go_at_call 19; refine (zzShift_any B hB2 hc I (by omega) (1) (by decide) _).mono ?_; rintro e w2 ⟨d12, hd12, rfl, hb2⟩)
      | (with_reducible refine at_store27 ?_; refine store27 hd12 rfl rfl rfl rfl ?hr ?_; case hr => exact Room.new rfl))
    have m12 := meet_plain (Z := #[.int .u8 0, .int .u8 0, .int .u8 0, .int .u8 0, .int .u8 0, .int .u8 0, .int .u8 0, .int .u8 0, .int .u8 0, .int .u8 0, .int .u8 0, .int .u8 0, .int .u8 0, .int .u8 0, .int .u8 0, .int .u8 0, .int .u8 0, .int .u8 0, .int .u8 0, .int .u8 0]) (t := 27) (d := d12) rfl hb2
    refine wp_gen (fun V => Row V G #[.int .i64 B] ∧ Row V (G + 1) c ∧ Row V g11 d11 ∧ Row V w2.heap.size d12 ∧ Below w.heap.size w V) ⟨R9.kept m12.2, R10.kept m12.2, R11.kept m12.2, m12.1, kept hB m12.2⟩ ?_
    clear m12 hb2 R9 R10 R11 hB hcl9
    generalize w2.heap.size = g12
    simp only [Act.put]
    rintro V ⟨R9, R10, R11, R12, hB⟩
    have hcl9 : V.cell? ⟨G, 0, none⟩ = some (.int .i64 B) := R9.cell
    go_upto_region 12 with (first
      | (with_reducible refine at_load27 ?_; refine load27g hd12 rfl rfl rfl R12 ?_)
      | (go_at_call 19; refine (zzShift_any B hB2 hd12 I (by omega) (-1) (by decide) _).mono ?_; rintro e w3 ⟨d13, hd13, rfl, hb3⟩)
      | (with_reducible refine at_store27 ?_; refine store27 hd13 rfl rfl rfl rfl ?hr ?_; case hr => exact Room.new rfl))
    have m13 := meet_plain (Z := #[.int .u8 0, .int .u8 0, .int .u8 0, .int .u8 0, .int .u8 0, .int .u8 0, .int .u8 0, .int .u8 0, .int .u8 0, .int .u8 0, .int .u8 0, .int .u8 0, .int .u8 0, .int .u8 0, .int .u8 0, .int .u8 0, .int .u8 0, .int .u8 0, .int .u8 0, .int .u8 0]) (t := 27) (d := d13) rfl hb3
    refine wp_gen (fun V => Row V G #[.int .i64 B] ∧ Row V (G + 1) c ∧ Row V g11 d11 ∧ Row V g12 d12 ∧ Row V w3.heap.size d13 ∧ Below w.heap.size w V) ⟨R9.kept m13.2, R10.kept m13.2, R11.kept m13.2, R12.kept m13.2, m13.1, kept hB m13.2⟩ ?_
    clear m13 hb3 R9 R10 R11 R12 hB hcl9
    generalize w3.heap.size = g13
    simp only [Act.put]
    rintro U ⟨R9, R10, R11, R12, R13, hB⟩
    have hcl9 : U.cell? ⟨G, 0, none⟩ = some (.int .i64 B) := R9.cell
    have hE1 := fun V => eq27_false hd12 hd11 (shift_turns N I (1) B (by decide) hI) V
    have hE2 := fun V => eq27_true hd13 hd11 (by simpa using shift_back N I (1) B) V
    by_cases h1 : I + 1 < B
    · go_upto_region 14 with (first
        | (with_reducible refine at_load27 ?_; refine load27g hd12 rfl rfl rfl R12 ?_)
        | (go_at_call 19; refine (zzShift_any B hB2 hd12 I (by omega) (1) (by decide) _).mono ?_; rintro e w4 ⟨d14, hd14, rfl, hb4⟩)
        | (with_reducible refine at_store27 ?_; refine store27 hd14 rfl rfl rfl rfl ?hr ?_; case hr => exact Room.new rfl))
      have m14 := meet_plain (Z := #[.int .u8 0, .int .u8 0, .int .u8 0, .int .u8 0, .int .u8 0, .int .u8 0, .int .u8 0, .int .u8 0, .int .u8 0, .int .u8 0, .int .u8 0, .int .u8 0, .int .u8 0, .int .u8 0, .int .u8 0, .int .u8 0, .int .u8 0, .int .u8 0, .int .u8 0, .int .u8 0]) (t := 27) (d := d14) rfl hb4
      refine wp_gen (fun V => Row V G #[.int .i64 B] ∧ Row V (G + 1) c ∧ Row V g11 d11 ∧ Row V g12 d12 ∧ Row V g13 d13 ∧ Row V w4.heap.size d14 ∧ Below w.heap.size w V) ⟨R9.kept m14.2, R10.kept m14.2, R11.kept m14.2, R12.kept m14.2, R13.kept m14.2, m14.1, kept hB m14.2⟩ ?_
      clear m14 hb4 R9 R10 R11 R12 R13 hB hcl9
      generalize w4.heap.size = g14
      simp only [Act.put]
      rintro X ⟨R9, R10, R11, R12, R13, R14, hB⟩
      have hcl9 : X.cell? ⟨G, 0, none⟩ = some (.int .i64 B) := R9.cell
      have zz : ∀ V, Calls Try.prog 19 #[.agg #[.int .i64 B], .agg c, .int .i64 ((I : Int) + 1), .int .i64 (1)] V fun e w' => ∃ d, IsId d (shiftTo N (I + 1) (1) B) ∧ e = .returned (.agg d) ∧ Below V.heap.size V w' := fun V => zzShift_any B hB2 hc (I + 1) (by omega) (1) (by decide) V
      have hwr : IntKind.i64.wrap ((I : Int) + 1) = (I : Int) + 1 := IntWalk.i64_in _ ⟨by omega, by omega⟩
      refine wp_region_held_drew (S := fun w' => Row w' g14 d14 ∧ Row w' (G + 1) c ∧ Row w' G #[.int .i64 B]) (by kernel_rfl) ⟨R14, R10, R9⟩ (fun hHeld => ?_)
      refine wpAnyH_take (i := 0) rfl (by kernel_rfl) (by kernel_rfl) (by kernel_rfl) (fun _ _ _ h => h) (yields_load27 hd14 rfl rfl rfl (fun _ h => h.1)) hHeld ?_
      refine wpAnyH_take (i := 1) rfl (by kernel_rfl) (by kernel_rfl) (by kernel_rfl) (fun _ _ _ h => h) (yields_load29 rfl rfl rfl (fun _ h => h.2.2)) hHeld ?_
      refine wpAnyH_take (i := 2) rfl (by kernel_rfl) (by kernel_rfl) (by kernel_rfl) (fun _ _ _ h => h) (yields_load27 hc rfl rfl rfl (fun _ h => h.2.1)) hHeld ?_
      refine wpAnyH_take (i := 3) (v := .int .i64 I) rfl (by kernel_rfl) (by kernel_rfl) (by kernel_rfl) (fun _ _ _ h => h) (Or.inl ⟨rfl, fun w' hSw => by go_simp⟩) hHeld ?_
      refine wpAnyH_take (i := 4) (v := .int .i64 ((I : Int) + 1)) rfl (by kernel_rfl) (by kernel_rfl) (by kernel_rfl) (fun _ _ _ h => h) (Or.inl ⟨rfl, fun w' hSw => by go_simp⟩) hHeld ?_
      refine wpAnyH_take (i := 5) (v := .int .i64 (1)) rfl (by kernel_rfl) (by kernel_rfl) (by kernel_rfl) (fun _ _ _ h => h) (Or.inl ⟨rfl, fun w' hSw => by go_simp⟩) hHeld ?_
      refine wpAnyH_ready (rs := [6]) (by kernel_rfl) (by simp) ?_
      refine AllReadyH.cons rfl (fun K hK => ?_) AllReadyH.nil
      go_simp
      refine (zz _).mono ?_
      rintro e w5 ⟨d15, hd15, rfl, hb5⟩
      have hE3 := fun V => eq27_true hd14 hd15 (shift_twice N I (1) B) V
      replace R9 := Row.kept (Row.drew R9) hb5
      replace R10 := Row.kept (Row.drew R10) hb5
      replace R11 := Row.kept (Row.drew R11) hb5
      replace R12 := Row.kept (Row.drew R12) hb5
      replace R13 := Row.kept (Row.drew R13) hb5
      replace R14 := Row.kept (Row.drew R14) hb5
      replace hB := kept (kept_drew hB) hb5
      refine hK.out _ _ ⟨R14, R10, R9⟩ (fun _ => ?_)
      clear hK K hHeld zz hwr
      refine wpAnyH_ready (rs := [7]) (by kernel_rfl) (by simp) ?_
      refine AllReadyH.cons rfl (fun K hK => ?_) AllReadyH.nil
      go_simp
      refine hK.out _ _ ⟨R14, R10, R9⟩ (fun _ => ?_)
      clear hK K
      refine wpAnyH_done (by kernel_rfl) ?_ _
      go_wp2_with (first
        | (with_reducible refine at_load27 ?_; refine load27g hd12 rfl rfl rfl R12 ?_)
        | (with_reducible refine at_load27 ?_; refine load27g hd11 rfl rfl rfl R11 ?_)
        | (with_reducible refine at_load27 ?_; refine load27g hd13 rfl rfl rfl R13 ?_))
      go_ret
      exact ⟨rfl, hB⟩
    · have hd' : (((I : Int) + 1 < (B : Int)) : Prop) = False := by simp; omega
      go_wp2_with (first
        | (with_reducible refine at_load27 ?_; refine load27g hd12 rfl rfl rfl R12 ?_)
        | (with_reducible refine at_load27 ?_; refine load27g hd11 rfl rfl rfl R11 ?_)
        | (with_reducible refine at_load27 ?_; refine load27g hd13 rfl rfl rfl R13 ?_))
      go_ret
      exact ⟨rfl, hB⟩

set_option maxHeartbeats 16000000 in
theorem trip_down {c : Array Value} {N : Nat} (hc : IsId c N) (B I : Nat) (w : World) (hB1 : 1 ≤ B) (hB2 : B ≤ 160) (hI : I < B) :
    Calls Try.prog 8 #[.int .i64 B, .agg c, .int .i64 I, .int .i64 (-1)] w fun e w' => e = .returned (.bool true) ∧ Below w.heap.size w w' := by
  go_enter Try.func8, Try.ntmps8
  go_upto_region 9 with (first
    | (go_at_call 12; refine (makeSpace_any _ _).mono ?_; rintro e w1 ⟨rfl, hb1⟩)
    | (with_reducible refine at_load24 ?_; refine load24g hc rfl rfl rfl ?hg ?_; case hg => exact Row.old (Row.kept (Row.new rfl) hb1))
    | (with_reducible refine at_store27 ?_; refine store27 hc rfl rfl rfl rfl ?hg ?_; case hg => (refine Row.room (Row.new ?_) rfl; simp; done)))
  refine wp_gen (fun W => Row W w1.heap.size #[.int .i64 B] ∧ Row W (w1.heap.size + 1) c ∧ Below w.heap.size w W) ⟨Row.apart (by simp) (Row.old (Row.new rfl)), Row.stored (Row.new (by simp)), below_setRow (kept_alloc (kept_alloc (kept (kept_alloc (Below.refl _ w) _) hb1) _) _) (by have := hb1.size; simp at this; omega) _⟩ ?_
  clear hb1
  generalize w1.heap.size = G
  simp only [Act.put]
  rintro W ⟨R9, R10, hB⟩
  have hcl9 : W.cell? ⟨G, 0, none⟩ = some (.int .i64 B) := R9.cell
  have hlt9 := R9.lt
  go_cut [11] (fun s wn => ∃ (g : Nat) (d : Array Value), s = .pointer (some ⟨g, 0, none⟩) ∧ IsId d (N % 2 ^ B) ∧ Row wn g d ∧ Below W.heap.size W wn)
  case first =>
    have hnew : ∀ V : World, Room (V.alloc (.cells #[.int .u8 0, .int .u8 0, .int .u8 0, .int .u8 0, .int .u8 0, .int .u8 0, .int .u8 0, .int .u8 0, .int .u8 0, .int .u8 0, .int .u8 0, .int .u8 0, .int .u8 0, .int .u8 0, .int .u8 0, .int .u8 0, .int .u8 0, .int .u8 0, .int .u8 0, .int .u8 0] 27)) V.heap.size := fun V => Room.new rfl
    go_region_with (go_at_call 13; refine (reduce_id B hB2 hc (G + 1) _ ?_).mono ?_; (first | exact Row.drew R10 | exact Row.drew (Row.old R10)); rintro e w2 ⟨d, hd, rfl, hb2⟩; have hdz := hd.size; have hst := store_rule hd; (try have hrA := Room.kept (Room.drew (hnew W)) hb2))
    all_goals
      go_wp2_with fail
      go_meet
      case rel =>
        have hz20 : (#[.int .u8 0, .int .u8 0, .int .u8 0, .int .u8 0, .int .u8 0, .int .u8 0, .int .u8 0, .int .u8 0, .int .u8 0, .int .u8 0, .int .u8 0, .int .u8 0, .int .u8 0, .int .u8 0, .int .u8 0, .int .u8 0, .int .u8 0, .int .u8 0, .int .u8 0, .int .u8 0] : Array Value).size = 20 := rfl
        first | with_reducible exact ⟨_, d, rfl, hd, meet_after hz20 hb2⟩ | with_reducible exact ⟨_, d, rfl, hd, meet_ahead hz20 hb2⟩
  case rest =>
    obtain ⟨g11, d11, rfl, hd11, R11, hb11⟩ := hcut
    replace R9 := R9.kept hb11
    replace R10 := R10.kept hb11
    replace hB := kept hB hb11
    clear hb11 hcl9 hlt9
    have hcl9 : wc.cell? ⟨G, 0, none⟩ = some (.int .i64 B) := R9.cell
    go_upto_region 11 with (first
      | (with_reducible refine at_load27 ?_; refine load27g hc rfl rfl rfl R10 ?_)
      | (go_at_call 19; refine (zzShift_any B hB2 hc I (by omega) (-1) (by decide) _).mono ?_; rintro e w2 ⟨d12, hd12, rfl, hb2⟩)
      | (with_reducible refine at_store27 ?_; refine store27 hd12 rfl rfl rfl rfl ?hr ?_; case hr => exact Room.new rfl))
    have m12 := meet_plain (Z := #[.int .u8 0, .int .u8 0, .int .u8 0, .int .u8 0, .int .u8 0, .int .u8 0, .int .u8 0, .int .u8 0, .int .u8 0, .int .u8 0, .int .u8 0, .int .u8 0, .int .u8 0, .int .u8 0, .int .u8 0, .int .u8 0, .int .u8 0, .int .u8 0, .int .u8 0, .int .u8 0]) (t := 27) (d := d12) rfl hb2
    refine wp_gen (fun V => Row V G #[.int .i64 B] ∧ Row V (G + 1) c ∧ Row V g11 d11 ∧ Row V w2.heap.size d12 ∧ Below w.heap.size w V) ⟨R9.kept m12.2, R10.kept m12.2, R11.kept m12.2, m12.1, kept hB m12.2⟩ ?_
    clear m12 hb2 R9 R10 R11 hB hcl9
    generalize w2.heap.size = g12
    simp only [Act.put]
    rintro V ⟨R9, R10, R11, R12, hB⟩
    have hcl9 : V.cell? ⟨G, 0, none⟩ = some (.int .i64 B) := R9.cell
    go_upto_region 12 with (first
      | (with_reducible refine at_load27 ?_; refine load27g hd12 rfl rfl rfl R12 ?_)
      | (go_at_call 19; refine (zzShift_any B hB2 hd12 I (by omega) (1) (by decide) _).mono ?_; rintro e w3 ⟨d13, hd13, rfl, hb3⟩)
      | (with_reducible refine at_store27 ?_; refine store27 hd13 rfl rfl rfl rfl ?hr ?_; case hr => exact Room.new rfl))
    have m13 := meet_plain (Z := #[.int .u8 0, .int .u8 0, .int .u8 0, .int .u8 0, .int .u8 0, .int .u8 0, .int .u8 0, .int .u8 0, .int .u8 0, .int .u8 0, .int .u8 0, .int .u8 0, .int .u8 0, .int .u8 0, .int .u8 0, .int .u8 0, .int .u8 0, .int .u8 0, .int .u8 0, .int .u8 0]) (t := 27) (d := d13) rfl hb3
    refine wp_gen (fun V => Row V G #[.int .i64 B] ∧ Row V (G + 1) c ∧ Row V g11 d11 ∧ Row V g12 d12 ∧ Row V w3.heap.size d13 ∧ Below w.heap.size w V) ⟨R9.kept m13.2, R10.kept m13.2, R11.kept m13.2, R12.kept m13.2, m13.1, kept hB m13.2⟩ ?_
    clear m13 hb3 R9 R10 R11 R12 hB hcl9
    generalize w3.heap.size = g13
    simp only [Act.put]
    rintro U ⟨R9, R10, R11, R12, R13, hB⟩
    have hcl9 : U.cell? ⟨G, 0, none⟩ = some (.int .i64 B) := R9.cell
    have hE1 := fun V => eq27_false hd12 hd11 (shift_turns N I (-1) B (by decide) hI) V
    have hE2 := fun V => eq27_true hd13 hd11 (by simpa using shift_back N I (-1) B) V
    by_cases h1 : I + 1 < B
    · go_upto_region 14 with (first
        | (with_reducible refine at_load27 ?_; refine load27g hd12 rfl rfl rfl R12 ?_)
        | (go_at_call 19; refine (zzShift_any B hB2 hd12 I (by omega) (-1) (by decide) _).mono ?_; rintro e w4 ⟨d14, hd14, rfl, hb4⟩)
        | (with_reducible refine at_store27 ?_; refine store27 hd14 rfl rfl rfl rfl ?hr ?_; case hr => exact Room.new rfl))
      have m14 := meet_plain (Z := #[.int .u8 0, .int .u8 0, .int .u8 0, .int .u8 0, .int .u8 0, .int .u8 0, .int .u8 0, .int .u8 0, .int .u8 0, .int .u8 0, .int .u8 0, .int .u8 0, .int .u8 0, .int .u8 0, .int .u8 0, .int .u8 0, .int .u8 0, .int .u8 0, .int .u8 0, .int .u8 0]) (t := 27) (d := d14) rfl hb4
      refine wp_gen (fun V => Row V G #[.int .i64 B] ∧ Row V (G + 1) c ∧ Row V g11 d11 ∧ Row V g12 d12 ∧ Row V g13 d13 ∧ Row V w4.heap.size d14 ∧ Below w.heap.size w V) ⟨R9.kept m14.2, R10.kept m14.2, R11.kept m14.2, R12.kept m14.2, R13.kept m14.2, m14.1, kept hB m14.2⟩ ?_
      clear m14 hb4 R9 R10 R11 R12 R13 hB hcl9
      generalize w4.heap.size = g14
      simp only [Act.put]
      rintro X ⟨R9, R10, R11, R12, R13, R14, hB⟩
      have hcl9 : X.cell? ⟨G, 0, none⟩ = some (.int .i64 B) := R9.cell
      have zz : ∀ V, Calls Try.prog 19 #[.agg #[.int .i64 B], .agg c, .int .i64 ((I : Int) + 1), .int .i64 (-1)] V fun e w' => ∃ d, IsId d (shiftTo N (I + 1) (-1) B) ∧ e = .returned (.agg d) ∧ Below V.heap.size V w' := fun V => zzShift_any B hB2 hc (I + 1) (by omega) (-1) (by decide) V
      have hwr : IntKind.i64.wrap ((I : Int) + 1) = (I : Int) + 1 := IntWalk.i64_in _ ⟨by omega, by omega⟩
      refine wp_region_held_drew (S := fun w' => Row w' g14 d14 ∧ Row w' (G + 1) c ∧ Row w' G #[.int .i64 B]) (by kernel_rfl) ⟨R14, R10, R9⟩ (fun hHeld => ?_)
      refine wpAnyH_take (i := 0) rfl (by kernel_rfl) (by kernel_rfl) (by kernel_rfl) (fun _ _ _ h => h) (yields_load27 hd14 rfl rfl rfl (fun _ h => h.1)) hHeld ?_
      refine wpAnyH_take (i := 1) rfl (by kernel_rfl) (by kernel_rfl) (by kernel_rfl) (fun _ _ _ h => h) (yields_load29 rfl rfl rfl (fun _ h => h.2.2)) hHeld ?_
      refine wpAnyH_take (i := 2) rfl (by kernel_rfl) (by kernel_rfl) (by kernel_rfl) (fun _ _ _ h => h) (yields_load27 hc rfl rfl rfl (fun _ h => h.2.1)) hHeld ?_
      refine wpAnyH_take (i := 3) (v := .int .i64 I) rfl (by kernel_rfl) (by kernel_rfl) (by kernel_rfl) (fun _ _ _ h => h) (Or.inl ⟨rfl, fun w' hSw => by go_simp⟩) hHeld ?_
      refine wpAnyH_take (i := 4) (v := .int .i64 ((I : Int) + 1)) rfl (by kernel_rfl) (by kernel_rfl) (by kernel_rfl) (fun _ _ _ h => h) (Or.inl ⟨rfl, fun w' hSw => by go_simp⟩) hHeld ?_
      refine wpAnyH_take (i := 5) (v := .int .i64 (-1)) rfl (by kernel_rfl) (by kernel_rfl) (by kernel_rfl) (fun _ _ _ h => h) (Or.inl ⟨rfl, fun w' hSw => by go_simp⟩) hHeld ?_
      refine wpAnyH_ready (rs := [6]) (by kernel_rfl) (by simp) ?_
      refine AllReadyH.cons rfl (fun K hK => ?_) AllReadyH.nil
      go_simp
      refine (zz _).mono ?_
      rintro e w5 ⟨d15, hd15, rfl, hb5⟩
      have hE3 := fun V => eq27_true hd14 hd15 (shift_twice N I (-1) B) V
      replace R9 := Row.kept (Row.drew R9) hb5
      replace R10 := Row.kept (Row.drew R10) hb5
      replace R11 := Row.kept (Row.drew R11) hb5
      replace R12 := Row.kept (Row.drew R12) hb5
      replace R13 := Row.kept (Row.drew R13) hb5
      replace R14 := Row.kept (Row.drew R14) hb5
      replace hB := kept (kept_drew hB) hb5
      refine hK.out _ _ ⟨R14, R10, R9⟩ (fun _ => ?_)
      clear hK K hHeld zz hwr
      refine wpAnyH_ready (rs := [7]) (by kernel_rfl) (by simp) ?_
      refine AllReadyH.cons rfl (fun K hK => ?_) AllReadyH.nil
      go_simp
      refine hK.out _ _ ⟨R14, R10, R9⟩ (fun _ => ?_)
      clear hK K
      refine wpAnyH_done (by kernel_rfl) ?_ _
      go_wp2_with (first
        | (with_reducible refine at_load27 ?_; refine load27g hd12 rfl rfl rfl R12 ?_)
        | (with_reducible refine at_load27 ?_; refine load27g hd11 rfl rfl rfl R11 ?_)
        | (with_reducible refine at_load27 ?_; refine load27g hd13 rfl rfl rfl R13 ?_))
      go_ret
      exact ⟨rfl, hB⟩
    · have hd' : (((I : Int) + 1 < (B : Int)) : Prop) = False := by simp; omega
      go_wp2_with (first
        | (with_reducible refine at_load27 ?_; refine load27g hd12 rfl rfl rfl R12 ?_)
        | (with_reducible refine at_load27 ?_; refine load27g hd11 rfl rfl rfl R11 ?_)
        | (with_reducible refine at_load27 ?_; refine load27g hd13 rfl rfl rfl R13 ?_))
      go_ret
      exact ⟨rfl, hB⟩
end Go.Proofs.Qxb6002790a
