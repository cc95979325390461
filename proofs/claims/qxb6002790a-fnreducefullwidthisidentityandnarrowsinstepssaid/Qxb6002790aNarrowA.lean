/-
  The walk of FnReduceFullWidthIsIdentityAndNarrowsInSteps.
-/
import Derived.Test.Qxb6002790aMore
import Derived.Test.Qxb6002790aReduce
namespace Go.Proofs.Qxb6002790a
open Go.RowKit Plain

theorem mod_steps (N A C m : Nat) (h : m = if C < A then C else A) : N % 2 ^ C % 2 ^ A = N % 2 ^ m := by
  subst h
  split
  · rename_i h
    exact Nat.mod_eq_of_lt (Nat.lt_of_lt_of_le (Nat.mod_lt _ (Nat.two_pow_pos C)) (Nat.pow_le_pow_right (by decide) (by omega)))
  · rename_i h
    exact Nat.mod_mod_of_dvd _ (Nat.pow_dvd_pow 2 (by omega))

set_option maxHeartbeats 16000000 in
theorem walk_lt {c : Array Value} {N : Nat} (hc : IsId c N) (A C : Nat) (w : World) (hA : A ≤ 160) (hC : C ≤ 160) (hlt : C < A) :
    Calls Try.prog 4 #[.agg c, .int .i64 A, .int .i64 C] w fun e w' => e = .returned (.bool true) ∧ Below w.heap.size w w' := by
  have Hmm : Hid (N % 2 ^ C % 2 ^ A = N % 2 ^ C) := mod_steps N A C C (by split <;> omega)
  go_enter Try.func4, Try.ntmps4
  go_upto_region 4 with (first
    | (with_reducible refine at_load24 ?_; refine load24g hc rfl rfl rfl ?hg ?_; case hg => exact Row.new rfl)
    | (with_reducible refine at_store27 ?_; refine store27 hc rfl rfl rfl rfl ?hg ?_; case hg => (refine Row.room (Row.new ?_) rfl; simp; done)))
  refine wp_gen (fun W => Row W w.heap.size c ∧ Row W (w.heap.size + 1) c ∧ Below w.heap.size w W) ⟨Row.apart (by simp) (Row.old (Row.new rfl)), Row.stored (Row.new (by simp)), below_setRow (((Below.refl _ _).alloc (by simp) _).alloc (by simp) _) (by simp) _⟩ ?_
  simp only [Act.put]
  rintro W ⟨R3, R7, hB⟩
  go_cut [8] (fun s wn => ∃ (g : Nat) (d : Array Value), s = .pointer (some ⟨g, 0, none⟩) ∧ IsId d (N % 2 ^ 160) ∧ Row wn g d ∧ Below W.heap.size W wn)
  case first =>
    have hnew : ∀ V : World, Room (V.alloc (.cells #[.int .u8 0, .int .u8 0, .int .u8 0, .int .u8 0, .int .u8 0, .int .u8 0, .int .u8 0, .int .u8 0, .int .u8 0, .int .u8 0, .int .u8 0, .int .u8 0, .int .u8 0, .int .u8 0, .int .u8 0, .int .u8 0, .int .u8 0, .int .u8 0, .int .u8 0, .int .u8 0] 27)) V.heap.size := fun V => Room.new rfl
    go_region_with (first
      | (go_at_call 12; refine (makeSpace_any _ _).mono ?_; rintro e w1 ⟨rfl, hb1⟩)
      | (go_at_call 13; refine (reduce_id 160 (by omega) hc (w.heap.size + 1) _ ?_).mono ?_; (first | exact Row.kept (Row.drew R7) hb1 | exact Row.old (Row.kept (Row.drew R7) hb1) | exact Row.kept (Row.drew (Row.old R7)) hb1); rintro e w2 ⟨d, hd, rfl, hb2⟩; have hdz := hd.size; have hst := store_rule hd; (try have hrB := Room.kept (hnew w1) hb2); (try have hrA := Room.kept (Room.kept (Room.drew (hnew W)) hb1) hb2)))
    all_goals
      go_wp2_with fail
      go_meet
      case rel =>
        have hz20 : (#[.int .u8 0, .int .u8 0, .int .u8 0, .int .u8 0, .int .u8 0, .int .u8 0, .int .u8 0, .int .u8 0, .int .u8 0, .int .u8 0, .int .u8 0, .int .u8 0, .int .u8 0, .int .u8 0, .int .u8 0, .int .u8 0, .int .u8 0, .int .u8 0, .int .u8 0, .int .u8 0] : Array Value).size = 20 := rfl
        first | with_reducible exact ⟨_, d, rfl, hd, meet_last hz20 hb1 hb2⟩ | with_reducible exact ⟨_, d, rfl, hd, meet_mid hz20 hb1 hb2⟩ | with_reducible exact ⟨_, d, rfl, hd, meet_first hz20 hb1 hb2⟩
  case rest =>

    obtain ⟨g8, d8, rfl, hd8, R8, hb8⟩ := hcut
    replace R3 := R3.kept hb8
    replace R7 := R7.kept hb8
    replace hB := kept hB hb8
    clear hb8
    have hE := fun V => eq24_true hd8 hc (Nat.mod_eq_of_lt hc.lt) V
    go_upto_region 7 with (first | (with_reducible refine at_load27 ?_; refine load27g hd8 rfl rfl rfl R8 ?_) | (with_reducible refine at_load24 ?_; refine load24g hc rfl rfl rfl R3 ?_))
    clear hE R8 hd8
    go_cut [9] (fun s wn => ∃ (g : Nat) (d : Array Value), s = .pointer (some ⟨g, 0, none⟩) ∧ IsId d (N % 2 ^ C) ∧ Row wn g d ∧ Below wc.heap.size wc wn)
    case first =>
      have hnew : ∀ V : World, Room (V.alloc (.cells #[.int .u8 0, .int .u8 0, .int .u8 0, .int .u8 0, .int .u8 0, .int .u8 0, .int .u8 0, .int .u8 0, .int .u8 0, .int .u8 0, .int .u8 0, .int .u8 0, .int .u8 0, .int .u8 0, .int .u8 0, .int .u8 0, .int .u8 0, .int .u8 0, .int .u8 0, .int .u8 0] 27)) V.heap.size := fun V => Room.new rfl
      go_region_with (first
        | (go_at_call 12; refine (makeSpace_any _ _).mono ?_; rintro e w1 ⟨rfl, hb1⟩)
        | (go_at_call 13; refine (reduce_id C hC hc (w.heap.size + 1) _ ?_).mono ?_; (first | exact Row.kept (Row.drew R7) hb1 | exact Row.old (Row.kept (Row.drew R7) hb1) | exact Row.kept (Row.drew (Row.old R7)) hb1); rintro e w2 ⟨d, hd, rfl, hb2⟩; have hdz := hd.size; have hst := store_rule hd; (try have hrB := Room.kept (hnew w1) hb2); (try have hrA := Room.kept (Room.kept (Room.drew (hnew wc)) hb1) hb2)))
      all_goals
        go_wp2_with fail
        go_meet
        case rel =>
          have hz20 : (#[.int .u8 0, .int .u8 0, .int .u8 0, .int .u8 0, .int .u8 0, .int .u8 0, .int .u8 0, .int .u8 0, .int .u8 0, .int .u8 0, .int .u8 0, .int .u8 0, .int .u8 0, .int .u8 0, .int .u8 0, .int .u8 0, .int .u8 0, .int .u8 0, .int .u8 0, .int .u8 0] : Array Value).size = 20 := rfl
          first | with_reducible exact ⟨_, d, rfl, hd, meet_last hz20 hb1 hb2⟩ | with_reducible exact ⟨_, d, rfl, hd, meet_mid hz20 hb1 hb2⟩ | with_reducible exact ⟨_, d, rfl, hd, meet_first hz20 hb1 hb2⟩
    case rest =>

      obtain ⟨g9, d9, rfl, hd9, R9, hb9⟩ := hcut
      replace R3 := R3.kept hb9
      replace R7 := R7.kept hb9
      replace hB := kept hB hb9
      clear hb9
      go_upto_region 8 with fail
      go_cut [10] (fun s wn => ∃ (g : Nat) (d : Array Value), s = .pointer (some ⟨g, 0, none⟩) ∧ IsId d ((N % 2 ^ C) % 2 ^ A) ∧ Row wn g d ∧ Below wc.heap.size wc wn)
      case first =>
        have hnew : ∀ V : World, Room (V.alloc (.cells #[.int .u8 0, .int .u8 0, .int .u8 0, .int .u8 0, .int .u8 0, .int .u8 0, .int .u8 0, .int .u8 0, .int .u8 0, .int .u8 0, .int .u8 0, .int .u8 0, .int .u8 0, .int .u8 0, .int .u8 0, .int .u8 0, .int .u8 0, .int .u8 0, .int .u8 0, .int .u8 0] 27)) V.heap.size := fun V => Room.new rfl
        go_region_with (first
          | (go_at_call 12; refine (makeSpace_any _ _).mono ?_; rintro e w1 ⟨rfl, hb1⟩)
          | (go_at_call 13; refine (reduce_id A hA hd9 g9 _ ?_).mono ?_; (first | exact Row.kept (Row.drew R9) hb1 | exact Row.old (Row.kept (Row.drew R9) hb1) | exact Row.kept (Row.drew (Row.old R9)) hb1); rintro e w2 ⟨d, hd, rfl, hb2⟩; have hdz := hd.size; have hst := store_rule hd; (try have hrB := Room.kept (hnew w1) hb2); (try have hrA := Room.kept (Room.kept (Room.drew (hnew wc)) hb1) hb2)))
        all_goals
          go_wp2_with fail
          go_meet
          case rel =>
            have hz20 : (#[.int .u8 0, .int .u8 0, .int .u8 0, .int .u8 0, .int .u8 0, .int .u8 0, .int .u8 0, .int .u8 0, .int .u8 0, .int .u8 0, .int .u8 0, .int .u8 0, .int .u8 0, .int .u8 0, .int .u8 0, .int .u8 0, .int .u8 0, .int .u8 0, .int .u8 0, .int .u8 0] : Array Value).size = 20 := rfl
            first | with_reducible exact ⟨_, d, rfl, hd, meet_last hz20 hb1 hb2⟩ | with_reducible exact ⟨_, d, rfl, hd, meet_mid hz20 hb1 hb2⟩ | with_reducible exact ⟨_, d, rfl, hd, meet_first hz20 hb1 hb2⟩
      case rest =>

        obtain ⟨g10, d10, rfl, hd10, R10, hb10⟩ := hcut
        replace R3 := R3.kept hb10
        replace R7 := R7.kept hb10
        replace hB := kept hB hb10
        clear hb10 R9 hd9
        go_upto_region 12 with fail
        go_cut [12] (fun s wn => ∃ (g : Nat) (d : Array Value), s = .pointer (some ⟨g, 0, none⟩) ∧ IsId d (N % 2 ^ C) ∧ Row wn g d ∧ Below wc.heap.size wc wn)
        case first =>
          have hnew : ∀ V : World, Room (V.alloc (.cells #[.int .u8 0, .int .u8 0, .int .u8 0, .int .u8 0, .int .u8 0, .int .u8 0, .int .u8 0, .int .u8 0, .int .u8 0, .int .u8 0, .int .u8 0, .int .u8 0, .int .u8 0, .int .u8 0, .int .u8 0, .int .u8 0, .int .u8 0, .int .u8 0, .int .u8 0, .int .u8 0] 27)) V.heap.size := fun V => Room.new rfl
          go_region_with (first
            | (go_at_call 12; refine (makeSpace_any _ _).mono ?_; rintro e w1 ⟨rfl, hb1⟩)
            | (go_at_call 13; refine (reduce_id C (by omega) hc (w.heap.size + 1) _ ?_).mono ?_; (first | exact Row.kept (Row.drew R7) hb1 | exact Row.old (Row.kept (Row.drew R7) hb1) | exact Row.kept (Row.drew (Row.old R7)) hb1); rintro e w2 ⟨d, hd, rfl, hb2⟩; have hdz := hd.size; have hst := store_rule hd; (try have hrB := Room.kept (hnew w1) hb2); (try have hrA := Room.kept (Room.kept (Room.drew (hnew wc)) hb1) hb2)))
          all_goals
            go_wp2_with fail
            go_meet
            case rel =>
              have hz20 : (#[.int .u8 0, .int .u8 0, .int .u8 0, .int .u8 0, .int .u8 0, .int .u8 0, .int .u8 0, .int .u8 0, .int .u8 0, .int .u8 0, .int .u8 0, .int .u8 0, .int .u8 0, .int .u8 0, .int .u8 0, .int .u8 0, .int .u8 0, .int .u8 0, .int .u8 0, .int .u8 0] : Array Value).size = 20 := rfl
              first | with_reducible exact ⟨_, d, rfl, hd, meet_last hz20 hb1 hb2⟩ | with_reducible exact ⟨_, d, rfl, hd, meet_mid hz20 hb1 hb2⟩ | with_reducible exact ⟨_, d, rfl, hd, meet_first hz20 hb1 hb2⟩
        case rest =>

          obtain ⟨g12, d12, rfl, hd12, R12, hb12⟩ := hcut
          replace R3 := R3.kept hb12
          replace R7 := R7.kept hb12
          replace R10 := R10.kept hb12
          replace hB := kept hB hb12
          clear hb12
          go_upto_region 13 with fail
          go_cut [13] (fun s wn => ∃ (g : Nat) (d : Array Value), s = .pointer (some ⟨g, 0, none⟩) ∧ IsId d (N % 2 ^ A) ∧ Row wn g d ∧ Below wc.heap.size wc wn)
          case first =>
            have hnew : ∀ V : World, Room (V.alloc (.cells #[.int .u8 0, .int .u8 0, .int .u8 0, .int .u8 0, .int .u8 0, .int .u8 0, .int .u8 0, .int .u8 0, .int .u8 0, .int .u8 0, .int .u8 0, .int .u8 0, .int .u8 0, .int .u8 0, .int .u8 0, .int .u8 0, .int .u8 0, .int .u8 0, .int .u8 0, .int .u8 0] 27)) V.heap.size := fun V => Room.new rfl
            go_region_with (first
              | (go_at_call 12; refine (makeSpace_any _ _).mono ?_; rintro e w1 ⟨rfl, hb1⟩)
              | (go_at_call 13; refine (reduce_id A hA hc (w.heap.size + 1) _ ?_).mono ?_; (first | exact Row.kept (Row.drew R7) hb1 | exact Row.old (Row.kept (Row.drew R7) hb1) | exact Row.kept (Row.drew (Row.old R7)) hb1); rintro e w2 ⟨d, hd, rfl, hb2⟩; have hdz := hd.size; have hst := store_rule hd; (try have hrB := Room.kept (hnew w1) hb2); (try have hrA := Room.kept (Room.kept (Room.drew (hnew wc)) hb1) hb2)))
            all_goals
              go_wp2_with fail
              go_meet
              case rel =>
                have hz20 : (#[.int .u8 0, .int .u8 0, .int .u8 0, .int .u8 0, .int .u8 0, .int .u8 0, .int .u8 0, .int .u8 0, .int .u8 0, .int .u8 0, .int .u8 0, .int .u8 0, .int .u8 0, .int .u8 0, .int .u8 0, .int .u8 0, .int .u8 0, .int .u8 0, .int .u8 0, .int .u8 0] : Array Value).size = 20 := rfl
                first | with_reducible exact ⟨_, d, rfl, hd, meet_last hz20 hb1 hb2⟩ | with_reducible exact ⟨_, d, rfl, hd, meet_mid hz20 hb1 hb2⟩ | with_reducible exact ⟨_, d, rfl, hd, meet_first hz20 hb1 hb2⟩
          case rest =>

            obtain ⟨g13, d13, rfl, hd13, R13, hb13⟩ := hcut
            replace R3 := R3.kept hb13
            replace R10 := R10.kept hb13
            replace R12 := R12.kept hb13
            replace hB := kept hB hb13
            clear hb13 R7
            have hE := fun V => eq27_true hd10 hd12 Hmm.out V
            go_wp2_with (first | (with_reducible refine at_load27 ?_; refine load27g hd10 rfl rfl rfl R10 ?_) | (with_reducible refine at_load27 ?_; refine load27g hd12 rfl rfl rfl R12 ?_) | (with_reducible refine at_load27 ?_; refine load27g hd13 rfl rfl rfl R13 ?_) | (with_reducible refine at_load24 ?_; refine load24g hc rfl rfl rfl R3 ?_) | (go_at_call 14; refine (zzCmp_le hd13 hc (Nat.mod_le _ _) _).mono ?_; rintro e w1 ⟨r, hr, rfl, hb1⟩))
            go_ret
            exact ⟨rfl, kept hB hb1⟩
end Go.Proofs.Qxb6002790a
