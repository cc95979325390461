/-
  The walk of FnShiftAddsPowerOfTwo, sign -1.
-/
import Derived.Test.Qxb6002790aShift
import Derived.Test.Qxb6002790aPlain3
namespace Go.Proofs.Qxb6002790a
open Go.RowKit Plain
set_option linter.unusedVariables false

set_option maxRecDepth 20000 in
set_option maxHeartbeats 16000000 in
theorem adds_down_lo {c : Array Value} {N : Nat} (hc : IsId c N) (B I : Nat) (w : World) (hB2 : B ≤ 160) (hI : I ≤ 9223372036854775807) (hlt : I < 160) :
    Calls Try.prog 7 #[.int .i64 B, .agg c, .int .i64 I, .int .i64 (-1)] w fun e w' => e = .returned (.bool true) ∧ Below w.heap.size w w' := by
  have hdec : decide ((I : Int) < 160) = true := by simp; omega
  go_enter Try.func7, Try.ntmps7
  go_upto_if 30 with (first
    | (with_reducible refine at_load24 ?_; refine load24g hc rfl rfl rfl ?hg ?_; case hg => exact Row.new rfl)
    | (with_reducible refine at_store24 ?_; refine store24 hc rfl rfl rfl rfl ?hg ?_; case hg => (refine Row.room (Row.new ?_) rfl; simp; done)))
  refine wp_gen (fun W => Row W w.heap.size c ∧ Row W (w.heap.size + 1) c ∧ Below w.heap.size w W) ⟨Row.apart (by simp) (Row.old (Row.new rfl)), Row.stored (Row.new (by simp)), below_setRow (((Below.refl _ _).alloc (by simp) _).alloc (by simp) _) (by simp) _⟩ ?_
  try simp only [Act.put]
  rintro W ⟨R5, R9, hB⟩
  go_cut [] (fun wn => ∃ (d : Array Value) (M : Nat), IsId d M ∧ Reaches M N I (-1) ∧ Row wn (w.heap.size + 1) d ∧ Row wn w.heap.size c ∧ Below w.heap.size w wn)
  case first =>
    go_wp2_with fail
    go_loopw [10] (fun t wr => ∃ (p : Nat) (d : Array Value) (M : Nat), t = .int .i64 p ∧ I ≤ p ∧ p ≤ 160 ∧ IsId d M ∧ Owes M p N I (-1) ∧ Row wr (w.heap.size + 1) d ∧ Row wr w.heap.size c ∧ Below w.heap.size w wr) (fun t _ => 160 - (intOf t).toNat)
    case atStart => exact ⟨I, c, N, rfl, Nat.le_refl _, by omega, hc, Owes.start N I (-1), R9, R5, hB⟩
    case round =>
      clear R9 R5 hB
      obtain ⟨p, d, M, rfl, hp1, hp2, hd, Hinv, R9, R5, hB⟩ := hrel
      by_cases hlt : p < 160
      · by_cases hbit : M / 2 ^ p % 2 = 0
        · have kb : ∀ V, Calls Try.prog 18 #[.agg d, .int .i64 p] V fun e w' => e = .returned (.int .u8 0) ∧ Below V.heap.size V w' := fun V => by
            have k := zzBitOf_any hd p V hlt
            rw [hbit] at k
            exact k
          have Hbit : Hid _ := hbit
          clear hbit
          go_wp2_with (first
            | (go_at_call 18; refine (kb _).mono ?_; rintro e w1 ⟨rfl, hb1⟩)
            | (with_reducible refine at_load24 ?_; refine load24g hd rfl rfl rfl ?hg ?_; case hg => first | exact R9 | exact Row.kept R9 hb1)
            | (go_at_call 11; refine (zzWithBit_one hd p _ hlt).mono ?_; rintro e w2 ⟨d2, hd2, rfl, hb2⟩)
            | (with_reducible refine at_store24 ?_; refine store24 hd2 rfl rfl rfl rfl ?hr ?_; case hr => exact (Row.kept (Row.kept R9 hb1) hb2).room hd.size))
          go_roundw
          case rel => exact ⟨p + 1, d2, _, by go_num, by omega, by omega, hd2, Hinv.down_next Hbit.out, ((Row.kept (Row.kept R9 hb1) hb2).room hd.size).stored, Row.apart (by omega) (Row.kept (Row.kept R5 hb1) hb2), below_setRow (kept (kept hB hb1) hb2) (by omega) _⟩
          case measure => simp [intOf]; omega
        · replace hbit : M / 2 ^ p % 2 = 1 := by omega
          have kb : ∀ V, Calls Try.prog 18 #[.agg d, .int .i64 p] V fun e w' => e = .returned (.int .u8 1) ∧ Below V.heap.size V w' := fun V => by
            have k := zzBitOf_any hd p V hlt
            rw [hbit] at k
            exact k
          have Hbit : Hid _ := hbit
          clear hbit
          go_wp2_with (first
            | (go_at_call 18; refine (kb _).mono ?_; rintro e w1 ⟨rfl, hb1⟩)
            | (with_reducible refine at_load24 ?_; refine load24g hd rfl rfl rfl ?hg ?_; case hg => first | exact R9 | exact Row.kept R9 hb1)
            | (go_at_call 11; refine (zzWithBit_zero hd p _ hlt).mono ?_; rintro e w2 ⟨d2, hd2, rfl, hb2⟩)
            | (with_reducible refine at_store24 ?_; refine store24 hd2 rfl rfl rfl rfl ?hr ?_; case hr => exact (Row.kept (Row.kept R9 hb1) hb2).room hd.size))
          go_meet
          case rel => exact ⟨d2, _, hd2, Hinv.down_stop Hbit.out, ((Row.kept (Row.kept R9 hb1) hb2).room hd.size).stored, Row.apart (by omega) (Row.kept (Row.kept R5 hb1) hb2), below_setRow (kept (kept hB hb1) hb2) (by omega) _⟩
      · obtain rfl : p = 160 := by omega
        go_wp2_with fail
        go_meet
        case rel => exact ⟨d, M, hd, Hinv.past (Nat.le_refl _), R9, R5, hB⟩
  case rest =>
    obtain ⟨d0, M, hd0, hM, R9, R5, hB⟩ := hcut
    have HM : Hid _ := hM.mod hB2
    clear hM
    go_wp2_with fail
    go_loopw [12] (fun t wr => ∃ (p : Nat) (d : Array Value), t = .int .i64 p ∧ B ≤ p ∧ p ≤ 160 ∧ IsId d (clr M B p) ∧ Row wr (w.heap.size + 1) d ∧ Row wr w.heap.size c ∧ Below w.heap.size w wr) (fun t _ => 160 - (intOf t).toNat)
    case atStart => exact ⟨B, d0, rfl, Nat.le_refl _, hB2, (by rw [clr_start]; exact hd0), R9, R5, hB⟩
    case round =>
      clear R9 R5 hB
      obtain ⟨p, d, rfl, hp1, hp2, hd, R9, R5, hB⟩ := hrel
      by_cases hlt : p < 160
      · go_wp2_with (first
          | (with_reducible refine at_load24 ?_; refine load24g hd rfl rfl rfl R9 ?_)
          | (go_at_call 11; refine (zzWithBit_zero hd p _ hlt).mono ?_; rintro e w2 ⟨d2, hd2, rfl, hb2⟩)
          | (with_reducible refine at_store24 ?_; refine store24 hd2 rfl rfl rfl rfl ?hr ?_; case hr => exact (Row.kept R9 hb2).room hd.size))
        go_roundw
        case rel => exact ⟨p + 1, d2, by go_num, by omega, by omega, (by rw [← clr_step' M B p hp1]; exact hd2), ((Row.kept R9 hb2).room hd.size).stored, Row.apart (by omega) (Row.kept R5 hb2), below_setRow (kept hB hb2) (by omega) _⟩
        case measure => simp [intOf]; omega
      · obtain rfl : p = 160 := by omega
        rw [clr_end hd0.lt] at hd
        rename World => V
        have hdW := hd
        clear hd hp1 hp2 hlt
        go_upto_region 20 with fail
        refine wp_region_held_drew (S := fun w' => Row w' w.heap.size c) (by kernel_rfl) R5 (fun hHeld => ?_)
        refine wpAnyH_take (i := 0) (v := .int .i64 B) rfl (by kernel_rfl) (by kernel_rfl) (by kernel_rfl) (fun _ _ _ h => h) (Or.inl ⟨rfl, fun w' hSw => by go_simp⟩) hHeld ?_
        refine wpAnyH_take (i := 2) rfl (by kernel_rfl) (by kernel_rfl) (by kernel_rfl) (fun _ _ _ h => h) (yields_load24 hc rfl rfl rfl (fun _ h => h)) hHeld ?_
        refine wpAnyH_take (i := 3) (v := .int .i64 I) rfl (by kernel_rfl) (by kernel_rfl) (by kernel_rfl) (fun _ _ _ h => h) (Or.inl ⟨rfl, fun w' hSw => by go_simp⟩) hHeld ?_
        refine wpAnyH_take (i := 4) (v := .int .i64 (-1)) rfl (by kernel_rfl) (by kernel_rfl) (by kernel_rfl) (fun _ _ _ h => h) (Or.inl ⟨rfl, fun w' hSw => by go_simp⟩) hHeld ?_
        clear hHeld
        refine wpAnyH_ready (rs := [1, 6]) (by kernel_rfl) (by simp) ?_
        refine AllReadyH.cons rfl (fun K hK => ?_) (AllReadyH.cons rfl (fun K hK => ?_) AllReadyH.nil)
        · go_simp
          refine (makeSpace_any _ _).mono ?_
          rintro e w1 ⟨rfl, hb1⟩
          refine hK.out _ _ (Row.kept (Row.drew R5) hb1) (fun _ => ?_)
          clear hK K
          refine wpAnyH_ready (rs := [5, 6]) (by kernel_rfl) (by simp) ?_
          refine AllReadyH.cons rfl (fun K hK => ?_) (AllReadyH.cons rfl (fun K hK => ?_) AllReadyH.nil)
          · go_simp
            refine (zzShift_any B hB2 hc I hI (-1) (by decide) _).mono ?_
            rintro e w2 ⟨d2, hd2, rfl, hb2⟩
            refine hK.out _ _ (Row.kept (Row.kept (Row.drew R5) hb1) hb2) (fun _ => ?_)
            clear hK K
            refine wpAnyH_ready (rs := [6]) (by kernel_rfl) (by simp) ?_
            refine AllReadyH.cons rfl (fun K hK => ?_) AllReadyH.nil
            go_simp
            refine hK.out _ _ (Row.old (Row.kept (Row.kept (Row.drew R5) hb1) hb2)) (fun _ => ?_)
            clear hK K
            have hdz := hd2.size
            have hst := store_rule hd2
            have hrm := (Room.new (w := w2) (cs := #[.int .u8 0, .int .u8 0, .int .u8 0, .int .u8 0, .int .u8 0, .int .u8 0, .int .u8 0, .int .u8 0, .int .u8 0, .int .u8 0, .int .u8 0, .int .u8 0, .int .u8 0, .int .u8 0, .int .u8 0, .int .u8 0, .int .u8 0, .int .u8 0, .int .u8 0, .int .u8 0]) (t := 27) rfl)
            refine wpAnyH_ready (rs := [7]) (by kernel_rfl) (by simp) ?_
            refine AllReadyH.cons rfl (fun K hK => ?_) AllReadyH.nil
            go_simp
            refine hK.out _ _ (Row.apart (Nat.ne_of_lt (Row.lt (Row.kept (Row.kept (Row.drew R5) hb1) hb2))) (Row.old (Row.kept (Row.kept (Row.drew R5) hb1) hb2))) (fun _ => ?_)
            clear hK K hdz hst hrm
            refine wpAnyH_done (by kernel_rfl) ?_ _
            obtain ⟨R13, hbk⟩ := meet_last (Z := #[.int .u8 0, .int .u8 0, .int .u8 0, .int .u8 0, .int .u8 0, .int .u8 0, .int .u8 0, .int .u8 0, .int .u8 0, .int .u8 0, .int .u8 0, .int .u8 0, .int .u8 0, .int .u8 0, .int .u8 0, .int .u8 0, .int .u8 0, .int .u8 0, .int .u8 0, .int .u8 0]) (t := 27) (d := d2) rfl hb1 hb2
            have hE := fun U => eq24_true hd2 hdW (HM.out.symm) U
            replace R9 := R9.kept hbk
            replace hB := kept hB hbk
            clear hbk hb1 hb2
            go_wp2_with (first
              | (with_reducible refine at_load27 ?_; refine load27g hd2 rfl rfl rfl R13 ?_)
              | (with_reducible refine at_load24 ?_; refine load24g hdW rfl rfl rfl R9 ?_))
            go_ret
            exact ⟨rfl, hB⟩
          · go_simp
            refine hK.out _ _ (Row.old (Row.kept (Row.drew R5) hb1)) (fun _ => ?_)
            clear hK K
            refine wpAnyH_ready (rs := [5]) (by kernel_rfl) (by simp) ?_
            refine AllReadyH.cons rfl (fun K hK => ?_) AllReadyH.nil
            go_simp
            refine (zzShift_any B hB2 hc I hI (-1) (by decide) _).mono ?_
            rintro e w2 ⟨d2, hd2, rfl, hb2⟩
            refine hK.out _ _ (Row.kept (Row.old (Row.kept (Row.drew R5) hb1)) hb2) (fun _ => ?_)
            clear hK K
            have hdz := hd2.size
            have hst := store_rule hd2
            have hrm := Room.kept (Room.new (w := w1) (cs := #[.int .u8 0, .int .u8 0, .int .u8 0, .int .u8 0, .int .u8 0, .int .u8 0, .int .u8 0, .int .u8 0, .int .u8 0, .int .u8 0, .int .u8 0, .int .u8 0, .int .u8 0, .int .u8 0, .int .u8 0, .int .u8 0, .int .u8 0, .int .u8 0, .int .u8 0, .int .u8 0]) (t := 27) rfl) hb2
            refine wpAnyH_ready (rs := [7]) (by kernel_rfl) (by simp) ?_
            refine AllReadyH.cons rfl (fun K hK => ?_) AllReadyH.nil
            go_simp
            refine hK.out _ _ (Row.apart (Nat.ne_of_lt (Row.lt (Row.kept (Row.drew R5) hb1))) (Row.kept (Row.old (Row.kept (Row.drew R5) hb1)) hb2)) (fun _ => ?_)
            clear hK K hdz hst hrm
            refine wpAnyH_done (by kernel_rfl) ?_ _
            obtain ⟨R13, hbk⟩ := meet_mid (Z := #[.int .u8 0, .int .u8 0, .int .u8 0, .int .u8 0, .int .u8 0, .int .u8 0, .int .u8 0, .int .u8 0, .int .u8 0, .int .u8 0, .int .u8 0, .int .u8 0, .int .u8 0, .int .u8 0, .int .u8 0, .int .u8 0, .int .u8 0, .int .u8 0, .int .u8 0, .int .u8 0]) (t := 27) (d := d2) rfl hb1 hb2
            have hE := fun U => eq24_true hd2 hdW (HM.out.symm) U
            replace R9 := R9.kept hbk
            replace hB := kept hB hbk
            clear hbk hb1 hb2
            go_wp2_with (first
              | (with_reducible refine at_load27 ?_; refine load27g hd2 rfl rfl rfl R13 ?_)
              | (with_reducible refine at_load24 ?_; refine load24g hdW rfl rfl rfl R9 ?_))
            go_ret
            exact ⟨rfl, hB⟩
        · go_simp
          refine hK.out _ _ (Row.drew (Row.old R5)) (fun _ => ?_)
          clear hK K
          refine wpAnyH_ready (rs := [1]) (by kernel_rfl) (by simp) ?_
          refine AllReadyH.cons rfl (fun K hK => ?_) AllReadyH.nil
          go_simp
          refine (makeSpace_any _ _).mono ?_
          rintro e w1 ⟨rfl, hb1⟩
          refine hK.out _ _ (Row.kept (Row.drew (Row.old R5)) hb1) (fun _ => ?_)
          clear hK K
          refine wpAnyH_ready (rs := [5]) (by kernel_rfl) (by simp) ?_
          refine AllReadyH.cons rfl (fun K hK => ?_) AllReadyH.nil
          go_simp
          refine (zzShift_any B hB2 hc I hI (-1) (by decide) _).mono ?_
          rintro e w2 ⟨d2, hd2, rfl, hb2⟩
          refine hK.out _ _ (Row.kept (Row.kept (Row.drew (Row.old R5)) hb1) hb2) (fun _ => ?_)
          clear hK K
          have hdz := hd2.size
          have hst := store_rule hd2
          have hrm := Room.kept (Room.kept (Room.drew (Room.new (w := V) (cs := #[.int .u8 0, .int .u8 0, .int .u8 0, .int .u8 0, .int .u8 0, .int .u8 0, .int .u8 0, .int .u8 0, .int .u8 0, .int .u8 0, .int .u8 0, .int .u8 0, .int .u8 0, .int .u8 0, .int .u8 0, .int .u8 0, .int .u8 0, .int .u8 0, .int .u8 0, .int .u8 0]) (t := 27) rfl)) hb1) hb2
          refine wpAnyH_ready (rs := [7]) (by kernel_rfl) (by simp) ?_
          refine AllReadyH.cons rfl (fun K hK => ?_) AllReadyH.nil
          go_simp
          refine hK.out _ _ (Row.apart (Nat.ne_of_lt (Row.lt R5)) (Row.kept (Row.kept (Row.drew (Row.old R5)) hb1) hb2)) (fun _ => ?_)
          clear hK K hdz hst hrm
          refine wpAnyH_done (by kernel_rfl) ?_ _
          obtain ⟨R13, hbk⟩ := meet_first (Z := #[.int .u8 0, .int .u8 0, .int .u8 0, .int .u8 0, .int .u8 0, .int .u8 0, .int .u8 0, .int .u8 0, .int .u8 0, .int .u8 0, .int .u8 0, .int .u8 0, .int .u8 0, .int .u8 0, .int .u8 0, .int .u8 0, .int .u8 0, .int .u8 0, .int .u8 0, .int .u8 0]) (t := 27) (d := d2) rfl hb1 hb2
          have hE := fun U => eq24_true hd2 hdW (HM.out.symm) U
          replace R9 := R9.kept hbk
          replace hB := kept hB hbk
          clear hbk hb1 hb2
          go_wp2_with (first
            | (with_reducible refine at_load27 ?_; refine load27g hd2 rfl rfl rfl R13 ?_)
            | (with_reducible refine at_load24 ?_; refine load24g hdW rfl rfl rfl R9 ?_))
          go_ret
          exact ⟨rfl, hB⟩

set_option maxRecDepth 20000 in
set_option maxHeartbeats 16000000 in
theorem adds_down_hi {c : Array Value} {N : Nat} (hc : IsId c N) (B I : Nat) (w : World) (hB2 : B ≤ 160) (hI : I ≤ 9223372036854775807) (hge : 160 ≤ I) :
    Calls Try.prog 7 #[.int .i64 B, .agg c, .int .i64 I, .int .i64 (-1)] w fun e w' => e = .returned (.bool true) ∧ Below w.heap.size w w' := by
  have hdec : decide ((I : Int) < 160) = false := by simp; omega
  have HM : Hid _ := ((Owes.start N I (-1)).past hge).mod hB2
  go_enter Try.func7, Try.ntmps7
  go_upto_region 16 with (first
    | (with_reducible refine at_load24 ?_; refine load24g hc rfl rfl rfl ?hg ?_; case hg => exact Row.new rfl)
    | (with_reducible refine at_store24 ?_; refine store24 hc rfl rfl rfl rfl ?hg ?_; case hg => (refine Row.room (Row.new ?_) rfl; simp; done)))
  refine wp_gen (fun W => Row W w.heap.size c ∧ Row W (w.heap.size + 1) c ∧ Below w.heap.size w W) ⟨Row.apart (by simp) (Row.old (Row.new rfl)), Row.stored (Row.new (by simp)), below_setRow (((Below.refl _ _).alloc (by simp) _).alloc (by simp) _) (by simp) _⟩ ?_
  try simp only [Act.put]
  rintro W ⟨R5, R9, hB⟩
  go_wp2_with fail
  go_loopw [12] (fun t wr => ∃ (p : Nat) (d : Array Value), t = .int .i64 p ∧ B ≤ p ∧ p ≤ 160 ∧ IsId d (clr N B p) ∧ Row wr (w.heap.size + 1) d ∧ Row wr w.heap.size c ∧ Below w.heap.size w wr) (fun t _ => 160 - (intOf t).toNat)
  case atStart => exact ⟨B, c, rfl, Nat.le_refl _, hB2, (by rw [clr_start]; exact hc), R9, R5, hB⟩
  case round =>
    clear R9 R5 hB
    obtain ⟨p, d, rfl, hp1, hp2, hd, R9, R5, hB⟩ := hrel
    by_cases hlt : p < 160
    · go_wp2_with (first
        | (with_reducible refine at_load24 ?_; refine load24g hd rfl rfl rfl R9 ?_)
        | (go_at_call 11; refine (zzWithBit_zero hd p _ hlt).mono ?_; rintro e w2 ⟨d2, hd2, rfl, hb2⟩)
        | (with_reducible refine at_store24 ?_; refine store24 hd2 rfl rfl rfl rfl ?hr ?_; case hr => exact (Row.kept R9 hb2).room hd.size))
      go_roundw
      case rel => exact ⟨p + 1, d2, by go_num, by omega, by omega, (by rw [← clr_step' N B p hp1]; exact hd2), ((Row.kept R9 hb2).room hd.size).stored, Row.apart (by omega) (Row.kept R5 hb2), below_setRow (kept hB hb2) (by omega) _⟩
      case measure => simp [intOf]; omega
    · obtain rfl : p = 160 := by omega
      rw [clr_end hc.lt] at hd
      rename World => V
      have hdW := hd
      clear hd hp1 hp2 hlt
      go_upto_region 20 with fail
      refine wp_region_held_drew (S := fun w' => Row w' w.heap.size c) (by kernel_rfl) R5 (fun hHeld => ?_)
      refine wpAnyH_take (i := 0) (v := .int .i64 B) rfl (by kernel_rfl) (by kernel_rfl) (by kernel_rfl) (fun _ _ _ h => h) (Or.inl ⟨rfl, fun w' hSw => by go_simp⟩) hHeld ?_
      refine wpAnyH_take (i := 2) rfl (by kernel_rfl) (by kernel_rfl) (by kernel_rfl) (fun _ _ _ h => h) (yields_load24 hc rfl rfl rfl (fun _ h => h)) hHeld ?_
      refine wpAnyH_take (i := 3) (v := .int .i64 I) rfl (by kernel_rfl) (by kernel_rfl) (by kernel_rfl) (fun _ _ _ h => h) (Or.inl ⟨rfl, fun w' hSw => by go_simp⟩) hHeld ?_
      refine wpAnyH_take (i := 4) (v := .int .i64 (-1)) rfl (by kernel_rfl) (by kernel_rfl) (by kernel_rfl) (fun _ _ _ h => h) (Or.inl ⟨rfl, fun w' hSw => by go_simp⟩) hHeld ?_
      clear hHeld
      refine wpAnyH_ready (rs := [1, 6]) (by kernel_rfl) (by simp) ?_
      refine AllReadyH.cons rfl (fun K hK => ?_) (AllReadyH.cons rfl (fun K hK => ?_) AllReadyH.nil)
      · go_simp
        refine (makeSpace_any _ _).mono ?_
        rintro e w1 ⟨rfl, hb1⟩
        refine hK.out _ _ (Row.kept (Row.drew R5) hb1) (fun _ => ?_)
        clear hK K
        refine wpAnyH_ready (rs := [5, 6]) (by kernel_rfl) (by simp) ?_
        refine AllReadyH.cons rfl (fun K hK => ?_) (AllReadyH.cons rfl (fun K hK => ?_) AllReadyH.nil)
        · go_simp
          refine (zzShift_any B hB2 hc I hI (-1) (by decide) _).mono ?_
          rintro e w2 ⟨d2, hd2, rfl, hb2⟩
          refine hK.out _ _ (Row.kept (Row.kept (Row.drew R5) hb1) hb2) (fun _ => ?_)
          clear hK K
          refine wpAnyH_ready (rs := [6]) (by kernel_rfl) (by simp) ?_
          refine AllReadyH.cons rfl (fun K hK => ?_) AllReadyH.nil
          go_simp
          refine hK.out _ _ (Row.old (Row.kept (Row.kept (Row.drew R5) hb1) hb2)) (fun _ => ?_)
          clear hK K
          have hdz := hd2.size
          have hst := store_rule hd2
          have hrm := (Room.new (w := w2) (cs := #[.int .u8 0, .int .u8 0, .int .u8 0, .int .u8 0, .int .u8 0, .int .u8 0, .int .u8 0, .int .u8 0, .int .u8 0, .int .u8 0, .int .u8 0, .int .u8 0, .int .u8 0, .int .u8 0, .int .u8 0, .int .u8 0, .int .u8 0, .int .u8 0, .int .u8 0, .int .u8 0]) (t := 27) rfl)
          refine wpAnyH_ready (rs := [7]) (by kernel_rfl) (by simp) ?_
          refine AllReadyH.cons rfl (fun K hK => ?_) AllReadyH.nil
          go_simp
          refine hK.out _ _ (Row.apart (Nat.ne_of_lt (Row.lt (Row.kept (Row.kept (Row.drew R5) hb1) hb2))) (Row.old (Row.kept (Row.kept (Row.drew R5) hb1) hb2))) (fun _ => ?_)
          clear hK K hdz hst hrm
          refine wpAnyH_done (by kernel_rfl) ?_ _
          obtain ⟨R13, hbk⟩ := meet_last (Z := #[.int .u8 0, .int .u8 0, .int .u8 0, .int .u8 0, .int .u8 0, .int .u8 0, .int .u8 0, .int .u8 0, .int .u8 0, .int .u8 0, .int .u8 0, .int .u8 0, .int .u8 0, .int .u8 0, .int .u8 0, .int .u8 0, .int .u8 0, .int .u8 0, .int .u8 0, .int .u8 0]) (t := 27) (d := d2) rfl hb1 hb2
          have hE := fun U => eq24_true hd2 hdW (HM.out.symm) U
          replace R9 := R9.kept hbk
          replace hB := kept hB hbk
          clear hbk hb1 hb2
          go_wp2_with (first
            | (with_reducible refine at_load27 ?_; refine load27g hd2 rfl rfl rfl R13 ?_)
            | (with_reducible refine at_load24 ?_; refine load24g hdW rfl rfl rfl R9 ?_))
          go_ret
          exact ⟨rfl, hB⟩
        · go_simp
          refine hK.out _ _ (Row.old (Row.kept (Row.drew R5) hb1)) (fun _ => ?_)
          clear hK K
          refine wpAnyH_ready (rs := [5]) (by kernel_rfl) (by simp) ?_
          refine AllReadyH.cons rfl (fun K hK => ?_) AllReadyH.nil
          go_simp
          refine (zzShift_any B hB2 hc I hI (-1) (by decide) _).mono ?_
          rintro e w2 ⟨d2, hd2, rfl, hb2⟩
          refine hK.out _ _ (Row.kept (Row.old (Row.kept (Row.drew R5) hb1)) hb2) (fun _ => ?_)
          clear hK K
          have hdz := hd2.size
          have hst := store_rule hd2
          have hrm := Room.kept (Room.new (w := w1) (cs := #[.int .u8 0, .int .u8 0, .int .u8 0, .int .u8 0, .int .u8 0, .int .u8 0, .int .u8 0, .int .u8 0, .int .u8 0, .int .u8 0, .int .u8 0, .int .u8 0, .int .u8 0, .int .u8 0, .int .u8 0, .int .u8 0, .int .u8 0, .int .u8 0, .int .u8 0, .int .u8 0]) (t := 27) rfl) hb2
          refine wpAnyH_ready (rs := [7]) (by kernel_rfl) (by simp) ?_
          refine AllReadyH.cons rfl (fun K hK => ?_) AllReadyH.nil
          go_simp
          refine hK.out _ _ (Row.apart (Nat.ne_of_lt (Row.lt (Row.kept (Row.drew R5) hb1))) (Row.kept (Row.old (Row.kept (Row.drew R5) hb1)) hb2)) (fun _ => ?_)
          clear hK K hdz hst hrm
          refine wpAnyH_done (by kernel_rfl) ?_ _
          obtain ⟨R13, hbk⟩ := meet_mid (Z := #[.int .u8 0, .int .u8 0, .int .u8 0, .int .u8 0, .int .u8 0, .int .u8 0, .int .u8 0, .int .u8 0, .int .u8 0, .int .u8 0, .int .u8 0, .int .u8 0, .int .u8 0, .int .u8 0, .int .u8 0, .int .u8 0, .int .u8 0, .int .u8 0, .int .u8 0, .int .u8 0]) (t := 27) (d := d2) rfl hb1 hb2
          have hE := fun U => eq24_true hd2 hdW (HM.out.symm) U
          replace R9 := R9.kept hbk
          replace hB := kept hB hbk
          clear hbk hb1 hb2
          go_wp2_with (first
            | (with_reducible refine at_load27 ?_; refine load27g hd2 rfl rfl rfl R13 ?_)
            | (with_reducible refine at_load24 ?_; refine load24g hdW rfl rfl rfl R9 ?_))
          go_ret
          exact ⟨rfl, hB⟩
      · go_simp
        refine hK.out _ _ (Row.drew (Row.old R5)) (fun _ => ?_)
        clear hK K
        refine wpAnyH_ready (rs := [1]) (by kernel_rfl) (by simp) ?_
        refine AllReadyH.cons rfl (fun K hK => ?_) AllReadyH.nil
        go_simp
        refine (makeSpace_any _ _).mono ?_
        rintro e w1 ⟨rfl, hb1⟩
        refine hK.out _ _ (Row.kept (Row.drew (Row.old R5)) hb1) (fun _ => ?_)
        clear hK K
        refine wpAnyH_ready (rs := [5]) (by kernel_rfl) (by simp) ?_
        refine AllReadyH.cons rfl (fun K hK => ?_) AllReadyH.nil
        go_simp
        refine (zzShift_any B hB2 hc I hI (-1) (by decide) _).mono ?_
        rintro e w2 ⟨d2, hd2, rfl, hb2⟩
        refine hK.out _ _ (Row.kept (Row.kept (Row.drew (Row.old R5)) hb1) hb2) (fun _ => ?_)
        clear hK K
        have hdz := hd2.size
        have hst := store_rule hd2
        have hrm := Room.kept (Room.kept (Room.drew (Room.new (w := V) (cs := #[.int .u8 0, .int .u8 0, .int .u8 0, .int .u8 0, .int .u8 0, .int .u8 0, .int .u8 0, .int .u8 0, .int .u8 0, .int .u8 0, .int .u8 0, .int .u8 0, .int .u8 0, .int .u8 0, .int .u8 0, .int .u8 0, .int .u8 0, .int .u8 0, .int .u8 0, .int .u8 0]) (t := 27) rfl)) hb1) hb2
        refine wpAnyH_ready (rs := [7]) (by kernel_rfl) (by simp) ?_
        refine AllReadyH.cons rfl (fun K hK => ?_) AllReadyH.nil
        go_simp
        refine hK.out _ _ (Row.apart (Nat.ne_of_lt (Row.lt R5)) (Row.kept (Row.kept (Row.drew (Row.old R5)) hb1) hb2)) (fun _ => ?_)
        clear hK K hdz hst hrm
        refine wpAnyH_done (by kernel_rfl) ?_ _
        obtain ⟨R13, hbk⟩ := meet_first (Z := #[.int .u8 0, .int .u8 0, .int .u8 0, .int .u8 0, .int .u8 0, .int .u8 0, .int .u8 0, .int .u8 0, .int .u8 0, .int .u8 0, .int .u8 0, .int .u8 0, .int .u8 0, .int .u8 0, .int .u8 0, .int .u8 0, .int .u8 0, .int .u8 0, .int .u8 0, .int .u8 0]) (t := 27) (d := d2) rfl hb1 hb2
        have hE := fun U => eq24_true hd2 hdW (HM.out.symm) U
        replace R9 := R9.kept hbk
        replace hB := kept hB hbk
        clear hbk hb1 hb2
        go_wp2_with (first
          | (with_reducible refine at_load27 ?_; refine load27g hd2 rfl rfl rfl R13 ?_)
          | (with_reducible refine at_load24 ?_; refine load24g hdW rfl rfl rfl R9 ?_))
        go_ret
        exact ⟨rfl, hB⟩
end Go.Proofs.Qxb6002790a
