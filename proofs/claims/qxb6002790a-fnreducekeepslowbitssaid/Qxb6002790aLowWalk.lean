/-
  The walk of FnReduceKeepsLowBits.
-/
import Derived.Test.Qxb6002790aLow
import Derived.Laws.MakeOwn
namespace Go.Proofs.Qxb6002790a
open Go.RowKit Plain

theorem info5all : (Try.prog.info? 5).map (fun i => (i.zero, i.size, i.bytes)) = some (some (.int .u8 0), 1, 1) := by kernel_rfl

/-- make([]byte, len). -/
theorem make_bytes (len : Nat) (h : len ≤ 1048576) : ∃ C : Array Value, C.size = len ∧ ∀ V : World, (Instr.makeSlice 22 (.int .i64 len) (.int .i64 len)).run Try.prog V = .ok (.slice (some ⟨V.heap.size, 0, none⟩) len len) (V.alloc (.cells C 5)) := by
  obtain ⟨i0, hi, hz0, hz1, hz2⟩ := info_parts info5all
  refine ⟨madeCells (Value.int .u8 0).cells (len * 1), by rw [size_madeCells]; omega, fun V => ?_⟩
  have hr := run_make (P := Try.prog) V 22 5 i0 (.int .u8 0) Try.underlying22 hi hz0 .i64 .i64 len len (by omega) (by omega) (by rw [hz2]; omega) (by omega)
  rw [hr, hz1, Int.toNat_natCast]

theorem copy_step {C : Array Value} {len k : Nat} {zs : Nat → Nat} (hC : C.size = len) (hk : k < len) (h : ∀ j, j < k → C[j]? = some (.int .u8 (zs j))) :
    (C.setIfInBounds k (.int .u8 (zs k))).size = len ∧ ∀ j, j < k + 1 → (C.setIfInBounds k (.int .u8 (zs k)))[j]? = some (.int .u8 (zs j)) := by
  refine ⟨by simp [hC], fun j hj => ?_⟩
  rw [Array.getElem?_setIfInBounds]
  by_cases e : k = j
  · subst e; simp [hC, hk]
  · rw [if_neg e]; exact h j (by omega)

theorem zero_id : IsId #[.int .u8 0, .int .u8 0, .int .u8 0, .int .u8 0, .int .u8 0, .int .u8 0, .int .u8 0, .int .u8 0, .int .u8 0, .int .u8 0, .int .u8 0, .int .u8 0, .int .u8 0, .int .u8 0, .int .u8 0, .int .u8 0, .int .u8 0, .int .u8 0, .int .u8 0, .int .u8 0] 0 :=
  splice_id (zs := fun _ => 0) (len := 0) (n := 0) (by omega) (by omega) (by omega) (by decide) (fun k hk => by rw [if_neg (by omega)]; simp [byteAt])

set_option maxHeartbeats 8000000 in
theorem low_some (b : Nat) (hb : b ≤ 160) (x : Addr) (len cap : Nat) (zs : Nat → Nat) (N : Nat) (w : World) (hlen : len ≤ 1048576)
    (hcell : ∀ j, j < len → w.cell? (x.add j) = some (.int .u8 (zs j))) (hN : N < 2 ^ 160) (hbytes : ∀ k, k < 20 → byteAt N k = if 20 ≤ len + k then zs (len + k - 20) else 0) :
    Calls Try.prog 3 #[.int .i64 b, .slice (some x) len cap] w fun e w' => e = .returned (.bool true) ∧ Below w.heap.size w w' := by
  obtain ⟨C, hC, hmk⟩ := make_bytes len hlen
  have hnn := fun V => run_neq_slice_nil_any (P := Try.prog) V 22 5 (some x) len cap 0 0 Try.underlying22
  have Hc : Hid _ := hcell
  have Hb : Hid _ := hbytes
  have HC : Hid _ := hC
  clear hcell hbytes hC
  go_enter Try.func3, Try.ntmps3
  go_wp2_with (go_at_call 9; refine (zzBytes_yes _ _ _ _ _ hlen).mono ?_; rintro e w1 ⟨rfl, hw1⟩; rw [hw1]; clear hw1 w1)
  go_loopw [6] (fun i wr => ∃ (k : Nat) (D : Array Value), i = .int .i64 k ∧ k ≤ len ∧ Row wr w.heap.size D ∧ Hid (D.size = len) ∧ (∀ j, j < k → D[j]? = some (.int .u8 (zs j))) ∧ Below w.heap.size w wr) (fun i _ => len - (intOf i).toNat)
  case atStart => exact ⟨0, C, rfl, Nat.zero_le _, Row.new rfl, HC, fun j hj => absurd hj (by omega), (Below.refl _ _).alloc (Nat.le_refl _) _⟩
  case round =>
    clear hmk HC hnn
    obtain ⟨k, D, rfl, hk, R, HD, hgot, hB⟩ := hrel
    by_cases hlt : k < len
    · have h0 := Hc.out k hlt
      have hcl : wr.cell? (x.add k) = some (.int .u8 (zs k)) := (hB.cell (block_lt_of_cell h0)).trans h0
      have hdk : wr.cell? ⟨w.heap.size, k, none⟩ = some _ := R.cell.trans (Array.getElem?_eq_getElem (by rw [HD.out]; exact hlt))
      have hfr := R.frozen (k := k)
      have hst := copy_step HD.out hlt hgot
      have HST : Hid _ := hst
      clear h0 hgot hst
      go_wp2
      go_roundw
      case rel => exact ⟨k + 1, _, by go_num, by omega, R.set, HST.out.1, HST.out.2, hB.setCell (by simp) _⟩
      case measure => simp [intOf]; omega
    · obtain rfl : len = k := by omega
      rename World => V
      have hH : Holds20 V (some ⟨w.heap.size, 0, none⟩) len zs N := ⟨fun _ => ⟨w.heap.size, rfl, fun j hj => R.cell.trans (hgot j hj)⟩, hN, Hb.out⟩
      clear hgot R HD Hc Hb hlt
      go_wp2_with fail
      have H0 := hH
      go_loopw [8] (fun i wr => ∃ (p : Nat) (d : Array Value), i = .int .i64 p ∧ p ≤ b ∧ IsId d (N % 2 ^ p) ∧ Row wr V.heap.size d ∧ Below V.heap.size V wr) (fun i _ => b - (intOf i).toNat)
      case atStart => exact ⟨0, _, rfl, Nat.zero_le _, (by rw [Nat.pow_zero, Nat.mod_one]; exact zero_id), Row.new rfl, (Below.refl _ _).alloc (Nat.le_refl _) _⟩
      case round =>
        obtain ⟨p, d, rfl, hp, hd, R, hV⟩ := hrel
        replace hH := hH.kept hV
        by_cases hlt : p < b
        · by_cases hbit : N / 2 ^ p % 2 = 1
          · have kb : Calls Try.prog 10 #[.slice (some ⟨w.heap.size, 0, none⟩) len len, .int .i64 p] wr fun e w' => e = .returned (.int .u8 1) ∧ w' = wr := by
              have k := zzBit_any (cap := len) p wr hlen (by omega) hH
              rw [hbit] at k
              exact k
            have Hbit : Hid _ := hbit
            clear hbit
            go_wp2_with (first
              | (go_at_call 10; refine kb.mono ?_; rintro e w1 ⟨rfl, hw1⟩; rw [hw1]; clear hw1 w1)
              | (with_reducible refine at_load24 ?_; refine load24g hd rfl rfl rfl R ?_)
              | (go_at_call 11; refine (zzWithBit_one hd p _ (by omega)).mono ?_; rintro e w2 ⟨d2, hd2, rfl, hb2⟩)
              | (with_reducible refine at_store24 ?_; refine store24 hd2 rfl rfl rfl rfl ?hr ?_; case hr => exact (Row.kept R hb2).room hd.size))
            go_roundw
            case rel => exact ⟨p + 1, d2, by go_num, by omega, (by rw [← bits_one N p Hbit.out]; exact hd2), ((Row.kept R hb2).room hd.size).stored, below_setRow (kept hV hb2) (Nat.le_refl _) _⟩
            case measure => simp [intOf]; omega
          · have hbit0 : N / 2 ^ p % 2 = 0 := by omega
            have kb : Calls Try.prog 10 #[.slice (some ⟨w.heap.size, 0, none⟩) len len, .int .i64 p] wr fun e w' => e = .returned (.int .u8 0) ∧ w' = wr := by
              have k := zzBit_any (cap := len) p wr hlen (by omega) hH
              rw [hbit0] at k
              exact k
            have Hbit : Hid _ := hbit0
            clear hbit hbit0
            go_wp2_with (go_at_call 10; refine kb.mono ?_; rintro e w1 ⟨rfl, hw1⟩; rw [hw1]; clear hw1 w1)
            go_roundw
            case rel => exact ⟨p + 1, d, by go_num, by omega, (by rw [← bits_zero N p Hbit.out]; exact hd), R, hV⟩
            case measure => simp [intOf]; omega
        · obtain rfl : p = b := by omega
          go_wp2_with (first
            | (go_at_call 12; refine (makeSpace_any _ _).mono ?_; rintro e w1 ⟨rfl, hb1⟩)
            | (go_at_call 13; refine (reduce_any p hb (some ⟨w.heap.size, 0, none⟩) len len zs N _ ?_ ?_ (hH.kept hb1).1 hH.2.1 hH.2.2).mono ?_; omega; omega; rintro e w2 ⟨d2, hd2, rfl, hb2⟩; have hE := fun U => eq24_true hd2 hd rfl U)
            | (with_reducible refine at_store27 ?_; refine store27 hd2 rfl rfl rfl rfl ?hr ?_; case hr => exact Room.new rfl)
            | (with_reducible refine at_load27 ?_; refine load27g hd2 rfl rfl rfl ?hg ?_; case hg => exact Room.stored (Room.new rfl))
            | (with_reducible refine at_load24 ?_; refine load24g hd rfl rfl rfl ?hg ?_; case hg => exact Row.apart (Nat.ne_of_lt (Row.lt (Row.kept (Row.kept R hb1) hb2))) (Row.old (Row.kept (Row.kept R hb1) hb2))))
          go_ret
          exact ⟨rfl, below_setRow (kept_alloc (kept (kept (kept hB hV) hb1) hb2) _) (kept (kept (kept hB hV) hb1) hb2).size _⟩

set_option maxHeartbeats 8000000 in
theorem low_nil (b : Nat) (hb : b ≤ 160) (w : World) :
    Calls Try.prog 3 #[.int .i64 b, .slice none 0 0] w fun e w' => e = .returned (.bool true) ∧ Below w.heap.size w w' := by
  have hnn := fun V => run_neq_slice_nil_any (P := Try.prog) V 22 5 none 0 0 0 0 Try.underlying22
  obtain ⟨zs, N, len, hN0, hl0⟩ : ∃ (zs : Nat → Nat) (N len : Nat), N = 0 ∧ len = 0 := ⟨fun _ => 0, 0, 0, rfl, rfl⟩
  have hH : Holds20 w none len zs N := by
    subst hN0 hl0
    exact ⟨fun h => absurd h (by omega), by decide, fun k hk => by rw [if_neg (by omega)]; simp [byteAt]⟩
  have hlen : len ≤ 1048576 := by omega
  have hB := Below.refl w.heap.size w
  clear hN0
  rw [show (Value.slice none 0 0) = Value.slice none len len by rw [hl0]]
  rw [← hl0] at hnn
  clear hl0
  go_enter Try.func3, Try.ntmps3
  go_wp2_with (go_at_call 9; refine (zzBytes_yes _ _ _ _ _ hlen).mono ?_; rintro e w1 ⟨rfl, hw1⟩; rw [hw1]; clear hw1 w1)
  go_wp2_with fail
  have H0 := hH
  go_loopw [8] (fun i wr => ∃ (p : Nat) (d : Array Value), i = .int .i64 p ∧ p ≤ b ∧ IsId d (N % 2 ^ p) ∧ Row wr w.heap.size d ∧ Below w.heap.size w wr) (fun i _ => b - (intOf i).toNat)
  case atStart => exact ⟨0, _, rfl, Nat.zero_le _, (by rw [Nat.pow_zero, Nat.mod_one]; exact zero_id), Row.new rfl, (Below.refl _ _).alloc (Nat.le_refl _) _⟩
  case round =>
    obtain ⟨p, d, rfl, hp, hd, R, hV⟩ := hrel
    replace hH := hH.kept hV
    by_cases hlt : p < b
    · by_cases hbit : N / 2 ^ p % 2 = 1
      · have kb : Calls Try.prog 10 #[.slice none len len, .int .i64 p] wr fun e w' => e = .returned (.int .u8 1) ∧ w' = wr := by
          have k := zzBit_any (cap := len) p wr hlen (by omega) hH
          rw [hbit] at k
          exact k
        have Hbit : Hid _ := hbit
        clear hbit
        go_wp2_with (first
          | (go_at_call 10; refine kb.mono ?_; rintro e w1 ⟨rfl, hw1⟩; rw [hw1]; clear hw1 w1)
          | (with_reducible refine at_load24 ?_; refine load24g hd rfl rfl rfl R ?_)
          | (go_at_call 11; refine (zzWithBit_one hd p _ (by omega)).mono ?_; rintro e w2 ⟨d2, hd2, rfl, hb2⟩)
          | (with_reducible refine at_store24 ?_; refine store24 hd2 rfl rfl rfl rfl ?hr ?_; case hr => exact (Row.kept R hb2).room hd.size))
        go_roundw
        case rel => exact ⟨p + 1, d2, by go_num, by omega, (by rw [← bits_one N p Hbit.out]; exact hd2), ((Row.kept R hb2).room hd.size).stored, below_setRow (kept hV hb2) (Nat.le_refl _) _⟩
        case measure => simp [intOf]; omega
      · have hbit0 : N / 2 ^ p % 2 = 0 := by omega
        have kb : Calls Try.prog 10 #[.slice none len len, .int .i64 p] wr fun e w' => e = .returned (.int .u8 0) ∧ w' = wr := by
          have k := zzBit_any (cap := len) p wr hlen (by omega) hH
          rw [hbit0] at k
          exact k
        have Hbit : Hid _ := hbit0
        clear hbit hbit0
        go_wp2_with (go_at_call 10; refine kb.mono ?_; rintro e w1 ⟨rfl, hw1⟩; rw [hw1]; clear hw1 w1)
        go_roundw
        case rel => exact ⟨p + 1, d, by go_num, by omega, (by rw [← bits_zero N p Hbit.out]; exact hd), R, hV⟩
        case measure => simp [intOf]; omega
    · obtain rfl : p = b := by omega
      go_wp2_with (first
        | (go_at_call 12; refine (makeSpace_any _ _).mono ?_; rintro e w1 ⟨rfl, hb1⟩)
        | (go_at_call 13; refine (reduce_any p hb none len len zs N _ ?_ ?_ (hH.kept hb1).1 hH.2.1 hH.2.2).mono ?_; omega; omega; rintro e w2 ⟨d2, hd2, rfl, hb2⟩; have hE := fun U => eq24_true hd2 hd rfl U)
        | (with_reducible refine at_store27 ?_; refine store27 hd2 rfl rfl rfl rfl ?hr ?_; case hr => exact Room.new rfl)
        | (with_reducible refine at_load27 ?_; refine load27g hd2 rfl rfl rfl ?hg ?_; case hg => exact Room.stored (Room.new rfl))
        | (with_reducible refine at_load24 ?_; refine load24g hd rfl rfl rfl ?hg ?_; case hg => exact Row.apart (Nat.ne_of_lt (Row.lt (Row.kept (Row.kept R hb1) hb2))) (Row.old (Row.kept (Row.kept R hb1) hb2))))
      go_ret
      exact ⟨rfl, below_setRow (kept_alloc (kept (kept (kept hB hV) hb1) hb2) _) (kept (kept (kept hB hV) hb1) hb2).size _⟩
end Go.Proofs.Qxb6002790a
