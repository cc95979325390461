/-
  The contract of (Space).Reduce.
-/
import Derived.Test.Qxb6002790aIds
namespace Go.Proofs.Qxb6002790a
open Go.RowKit Plain
set_option linter.unusedVariables false

theorem info5 : (Try.prog.info? 5).map (·.size) = some 1 := by kernel_rfl
def zeros : List Value := List.replicate 20 (.int .u8 0)
def src (zs : Nat → Nat) (len n : Nat) : List Value := (List.range n).map fun j => .int .u8 (zs (len - n + j))
theorem src_length (zs : Nat → Nat) (len n : Nat) : (src zs len n).length = n := by simp [src]
theorem src_one (zs : Nat → Nat) (len n : Nat) : ∀ v ∈ src zs len n, v.oneCell' = true := by
  intro v hv
  simp only [src, List.mem_map] at hv
  obtain ⟨j, _, rfl⟩ := hv
  rfl
theorem new_row {w : World} {o : Obj} {g : Nat} (h : g = w.heap.size) : (w.alloc o).heap[g]? = some o := by subst h; exact heap_alloc_last w o

theorem zeros_get {k : Nat} (h : k < 20) : zeros[k]? = some (.int .u8 0) := by
  rw [zeros, List.getElem?_replicate, if_pos h]

theorem splice_id {zs : Nat → Nat} {len n N : Nat} (hn : n ≤ 20) (hl : n ≤ len) (hz : n < len → n = 20) (hN : N < 2 ^ 160) (hbytes : ∀ k, k < 20 → byteAt N k = if 20 ≤ len + k then zs (len + k - 20) else 0) :
    IsId (splice zeros (20 - n) (src zs len n)).toArray N := by
  refine ⟨hN, ?_⟩
  apply Array.ext_getElem?
  intro k
  have hlen : (splice zeros (20 - n) (src zs len n)).length = 20 := by
    rw [length_splice _ _ _ (by rw [src_length]; simp [zeros]; omega)]; simp [zeros]
  by_cases hk : k < 20
  · rw [cells_get N hk, hbytes k hk]
    simp only [List.getElem?_toArray, splice, List.getElem?_append, List.length_take, src_length]
    simp only [show zeros.length = 20 from rfl, Nat.min_eq_left (show 20 - n ≤ 20 by omega)]
    by_cases c : k < 20 - n
    · rw [if_pos c, if_neg (by omega)]
      rw [List.getElem?_take, if_pos c, zeros_get hk]; rfl
    · rw [if_neg c, if_pos (by omega), if_pos (by omega)]
      simp only [src, List.getElem?_map, List.getElem?_range (show k - (20 - n) < n by omega), Option.map_some]
      rw [show len - n + (k - (20 - n)) = len + k - 20 by omega]
  · rw [Array.getElem?_eq_none (xs := cells N) (by rw [cells_size]; omega), Array.getElem?_eq_none (by rw [List.size_toArray, hlen]; omega)]



theorem src_cells {w W : World} {zs : Nat → Nat} {len n g : Nat} (hb : Below w.heap.size w W) (hn : n ≤ len) (hcell : ∀ j, j < len → w.cell? ⟨g, j, none⟩ = some (.int .u8 (zs j))) :
    ∀ (j : Nat) (v : Value), (src zs len n)[j]? = some v → W.cell? ((⟨g, len - n, none⟩ : Addr).add j) = some v := by
  intro j v hj
  simp only [src, List.getElem?_map, Option.map_eq_some_iff, List.getElem?_eq_some_iff] at hj
  obtain ⟨j', ⟨hj1, hj2⟩, rfl⟩ := hj
  simp only [List.length_range] at hj1
  simp only [List.getElem_range] at hj2
  subst hj2
  have h := hcell (len - n + j) (by omega)
  rw [← h, show (⟨g, len - n, none⟩ : Addr).add j = ⟨g, len - n + j, none⟩ from by unfold Addr.add; split <;> simp_all]
  exact hb.cell (block_lt_of_cell h)

theorem clr_step {c : Array Value} {N k : Nat} (h : IsId c (N % 2 ^ (160 - 8 * k))) (hk : k < 20) : IsId (c.setIfInBounds k (.int .u8 0)) (N % 2 ^ (160 - 8 * (k + 1))) := by
  have hlt : ∀ e, e ≤ 160 → N % 2 ^ e < 2 ^ 160 := fun e he => Nat.lt_of_lt_of_le (Nat.mod_lt _ (Nat.two_pow_pos e)) (Nat.pow_le_pow_right (by decide) he)
  refine h.set (b := 0) (hlt _ (by omega)) hk ?_ ?_
  · rw [byteAt_clr N (k + 1) k (by omega) hk, if_pos (by omega)]
  · intro j hj hne
    rw [byteAt_clr N (k + 1) j (by omega) hj, byteAt_clr N k j (by omega) hj]
    by_cases c1 : j < k
    · rw [if_pos c1, if_pos (by omega)]
    · rw [if_neg c1, if_neg (by omega)]

theorem part_step {c : Array Value} {N b : Nat} (hb : b ≤ 160) (h : IsId c (N % 2 ^ (160 - 8 * ((160 - b) / 8)))) (h8 : (160 - b) % 8 ≠ 0) :
    IsId (c.setIfInBounds ((160 - b) / 8) (.int .u8 (bits .and .u8 (byteAt (N % 2 ^ (160 - 8 * ((160 - b) / 8))) ((160 - b) / 8) : Nat) ((255 : Int) / 2 ^ ((160 - b) % 8))))) (N % 2 ^ b) := by
  have em : (255 : Int) / 2 ^ ((160 - b) % 8) = ((255 / 2 ^ ((160 - b) % 8) : Nat) : Int) := by simp
  rw [em]
  clear em
  have hk : (160 - b) / 8 < 20 := by omega
  have hlt : N % 2 ^ b < 2 ^ 160 := Nat.lt_of_lt_of_le (Nat.mod_lt _ (Nat.two_pow_pos b)) (Nat.pow_le_pow_right (by decide) hb)
  have e : ∀ k, k < 20 → (160 - b) / 8 ≤ k → byteAt (N % 2 ^ (160 - 8 * ((160 - b) / 8))) k = byteAt N k := fun k hk1 hk2 => by
    rw [byteAt_clr N _ k (by omega) hk1, if_neg (by omega)]
  rw [u8_and_nat _ _ (byteAt_lt _ _) (Nat.lt_of_le_of_lt (Nat.div_le_self _ _) (by decide))]
  refine h.set hlt hk ?_ ?_
  · rw [byteAt_mod_part N b hb h8, e _ hk (Nat.le_refl _)]
  · intro j hj hne
    by_cases c1 : j < (160 - b) / 8
    · rw [byteAt_mod_zero N b j hb c1, byteAt_clr N _ j (by omega) hj, if_pos c1]
    · rw [byteAt_mod_same N b j hb hj (by omega), e j hj (by omega)]

theorem slice27_from (w : World) (g len : Nat) (h0 : 0 < len) (h : len ≤ 20) :
    (Instr.sliceAt 27 (.pointer (some ⟨g, 0, none⟩)) (some (.int .i64 (20 - (len : Int)))) none none).run Try.prog w = .ok (.slice (some ⟨g, 20 - len, none⟩) len len) w := by
  have ht : Try.prog.underlying 27 = some (.array (Try.prog.arrayLen 27) (Try.prog.elem 27)) := by kernel_rfl
  have ha : Try.prog.arrayLen 27 = 20 := by kernel_rfl
  have he : Try.prog.elem 27 = 5 := by kernel_rfl
  have e : (20 - (len : Int)).toNat = 20 - len := by omega
  have ea : (⟨g, 0, none⟩ : Addr).add (20 - len) = ⟨g, 20 - len, none⟩ := by unfold Addr.add; split <;> simp_all
  have e2 : 20 - (20 - len) = len := by omega
  rw [run_sliceAt_array_l w 27 _ ht .i64 _ (by omega) (by rw [ha]; omega), ha, he, Try.sizeOf5]
  simp only [Result.andThen, slicedAt, e, Nat.mul_one, ea, e2]
  rw [if_neg (by omega)]

theorem reduce_long (b : Nat) (hb : b ≤ 160) (sp : Option Addr) (len cap : Nat) (zs : Nat → Nat) (N : Nat) (w : World) (hlen : 20 < len) (hcap : len ≤ cap) (hcap' : cap ≤ 9223372036854775807)
    (hsrc : 0 < len → ∃ g, sp = some ⟨g, 0, none⟩ ∧ ∀ j, j < len → w.cell? ⟨g, j, none⟩ = some (.int .u8 (zs j)))
    (hN : N < 2 ^ 160) (hbytes : ∀ k, k < 20 → byteAt N k = if 20 ≤ len + k then zs (len + k - 20) else 0) :
    Calls Try.prog 13 #[.agg #[.int .i64 b], .slice sp len cap] w fun e w' => ∃ d, IsId d (N % 2 ^ b) ∧ e = .returned (.agg d) ∧ Below w.heap.size w w' := by
  have Hs : Hid _ := hsrc
  have hid := splice_id (zs := zs) (len := len) (n := 20) (by omega) (by omega) (by omega) hN hbytes
  clear hsrc hbytes
  have hll : len - (len - 20) = 20 := by omega
  go_enter Try.func13, Try.ntmps13
  go_upto_region 5 with (refine wpList_copy_splice rfl (.tmp 19) (.tmp 20) 22 22 rfl 5 Try.underlying22 info5 _ _ _ _ _ _ rfl rfl (w.heap.size + 1 + 1) (20 - 20) zeros 27 ?hg (src zs len 20) ?hn ?hpos ?hfit (src_one _ _ _) (w.heap.size + 2) _ (Below.refl _ _) ?hBg ?_; (case hg => exact new_row (by simp)); (case hn => rw [src_length, hll]; rfl); (case hpos => (intro _; obtain ⟨g, rfl, hcell⟩ := Hs.out (by omega); exact ⟨rfl, ⟨g, len - 20, none⟩, by simp [Addr.add]; omega, src_cells ((((Below.refl _ _).alloc (by simp) _).alloc (by simp) _).alloc (by simp <;> omega) _) (by omega) hcell⟩)); (case hfit => rw [src_length]; show _ ≤ 20; omega); (case hBg => omega); intro w4 hrow hb4)
  have R : Row w4 (w.heap.size + 1 + 1) _ := ⟨_, hrow.out⟩
  have hcell : w4.cell? ⟨w.heap.size, 0, none⟩ = some (.int .i64 b) := (Row.below (Row.old (Row.old (Row.new rfl))) hb4 (by omega)).cell
  have room : Room w4 (w.heap.size + 1) := (Row.below (Row.old (Row.new (by simp))) hb4 (by omega)).room rfl
  have hB : Below w.heap.size w w4 := ((((Below.refl _ _).alloc (by simp) _).alloc (by simp) _).alloc (by simp <;> omega) _).trans (hb4.mono (by omega))
  clear hrow hb4 Hs
  generalize (splice zeros (20 - 20) (src zs len 20)).toArray = c at hid R
  rw [← Nat.mod_eq_of_lt hN] at hid
  go_wp2
  go_loopw [7] (fun i wr => ∃ (k : Nat) (d : Array Value), i = .int .i64 k ∧ k ≤ (160 - b) / 8 ∧ IsId d (N % 2 ^ (160 - 8 * k)) ∧ Row wr (w.heap.size + 1 + 1) d ∧ Room wr (w.heap.size + 1) ∧ Below w.heap.size w wr) (fun i _ => 20 - (intOf i).toNat)
  case atStart => exact ⟨0, c, rfl, Nat.zero_le _, hid, R, room, hB⟩
  case round =>
    clear hid R room hB hcell
    obtain ⟨k, d, rfl, hk, hid, R, room, hB⟩ := hrel
    by_cases hlt : k < (160 - b) / 8
    · have hcl : wr.cell? ⟨w.heap.size + 1 + 1, k, none⟩ = some _ := R.cell.trans (hid.get (by omega))
      have hfr := R.frozen (k := k)
      go_wp2
      go_roundw
      case rel => exact ⟨k + 1, _, by go_num, by omega, clr_step hid (by omega), R.set, room.setApart (by simp), hB.setCell (by simp; omega) _⟩
      case measure => simp [intOf]; omega
    · obtain rfl : k = (160 - b) / 8 := by omega
      by_cases h8 : (160 - b) % 8 = 0
      · have e8 : ((160 - (b : Int)) % 8 != 0) = false := by simp; omega
        have hM : N % 2 ^ (160 - 8 * ((160 - b) / 8)) = N % 2 ^ b := by rw [show 160 - 8 * ((160 - b) / 8) = b by omega]
        rw [hM] at hid
        clear hM
        go_wp2_with (first | (refine load27 hid rfl rfl rfl R ?_) | (refine store27 hid rfl rfl rfl rfl room ?_))
        refine bodyPost_ret (v := .agg d) ?_ rfl ⟨d, hid, rfl, ?_⟩
        · exact res27 hid Try.results13 rfl room.stored
        · exact below_setRow hB (by simp) _
      · have e8 : ((160 - (b : Int)) % 8 != 0) = true := by simp; omega
        have hid' := part_step hb hid h8
        have hcl : wr.cell? ⟨w.heap.size + 1 + 1, (160 - b) / 8, none⟩ = some _ := R.cell.trans (hid.get (by omega))
        have hfr := R.frozen (k := (160 - b) / 8)
        go_upto_region 11 with fail
        go_region
        go_wp2_with (first | (refine load27 hid' rfl rfl rfl R.set.drew ?_) | (refine store27 hid' rfl rfl rfl rfl (room.setApart (by simp)).drew ?_))
        refine bodyPost_ret (v := .agg _) ?_ rfl ⟨_, hid', rfl, ?_⟩
        · exact res27 hid' Try.results13 rfl (room.setApart (by simp)).drew.stored
        · exact below_setRow (hB.setCell (by simp; omega) _).drew (by simp) _

theorem reduce_short (b : Nat) (hb : b ≤ 160) (sp : Option Addr) (len cap : Nat) (zs : Nat → Nat) (N : Nat) (w : World) (hlen : 0 < len ∧ len ≤ 20) (hcap : len ≤ cap) (hcap' : cap ≤ 9223372036854775807)
    (hsrc : 0 < len → ∃ g, sp = some ⟨g, 0, none⟩ ∧ ∀ j, j < len → w.cell? ⟨g, j, none⟩ = some (.int .u8 (zs j)))
    (hN : N < 2 ^ 160) (hbytes : ∀ k, k < 20 → byteAt N k = if 20 ≤ len + k then zs (len + k - 20) else 0) :
    Calls Try.prog 13 #[.agg #[.int .i64 b], .slice sp len cap] w fun e w' => ∃ d, IsId d (N % 2 ^ b) ∧ e = .returned (.agg d) ∧ Below w.heap.size w w' := by
  have Hs : Hid _ := hsrc
  have hid := splice_id (zs := zs) (len := len) (n := len) (by omega) (by omega) (by omega) hN hbytes
  clear hsrc hbytes
  obtain ⟨hl0, hl20⟩ := hlen
  have hsl := fun wx => slice27_from wx (w.heap.size + 1 + 1) len hl0 hl20
  go_enter Try.func13, Try.ntmps13
  go_upto_region 5 with (refine wpList_copy_splice rfl (.tmp 19) (.tmp 20) 22 22 rfl 5 Try.underlying22 info5 _ _ _ _ _ _ rfl rfl (w.heap.size + 1 + 1) (20 - len) zeros 27 ?hg (src zs len len) ?hn ?hpos ?hfit (src_one _ _ _) (w.heap.size + 2) _ (Below.refl _ _) ?hBg ?_; (case hg => exact new_row (by simp)); (case hn => rw [src_length]; simp); (case hpos => (intro _; obtain ⟨g, rfl, hcell⟩ := Hs.out (by omega); exact ⟨rfl, ⟨g, len - len, none⟩, by simp, src_cells ((((Below.refl _ _).alloc (by simp) _).alloc (by simp) _).alloc (by simp <;> omega) _) (by omega) hcell⟩)); (case hfit => rw [src_length]; show _ ≤ 20; omega); (case hBg => omega); intro w4 hrow hb4)
  have R : Row w4 (w.heap.size + 1 + 1) _ := ⟨_, hrow.out⟩
  have hcell : w4.cell? ⟨w.heap.size, 0, none⟩ = some (.int .i64 b) := (Row.below (Row.old (Row.old (Row.new rfl))) hb4 (by omega)).cell
  have room : Room w4 (w.heap.size + 1) := (Row.below (Row.old (Row.new (by simp))) hb4 (by omega)).room rfl
  have hB : Below w.heap.size w w4 := ((((Below.refl _ _).alloc (by simp) _).alloc (by simp) _).alloc (by simp <;> omega) _).trans (hb4.mono (by omega))
  clear hrow hb4 Hs
  generalize (splice zeros (20 - len) (src zs len len)).toArray = c at hid R
  rw [← Nat.mod_eq_of_lt hN] at hid
  go_wp2
  go_loopw [7] (fun i wr => ∃ (k : Nat) (d : Array Value), i = .int .i64 k ∧ k ≤ (160 - b) / 8 ∧ IsId d (N % 2 ^ (160 - 8 * k)) ∧ Row wr (w.heap.size + 1 + 1) d ∧ Room wr (w.heap.size + 1) ∧ Below w.heap.size w wr) (fun i _ => 20 - (intOf i).toNat)
  case atStart => exact ⟨0, c, rfl, Nat.zero_le _, hid, R, room, hB⟩
  case round =>
    clear hid R room hB hcell
    obtain ⟨k, d, rfl, hk, hid, R, room, hB⟩ := hrel
    by_cases hlt : k < (160 - b) / 8
    · have hcl : wr.cell? ⟨w.heap.size + 1 + 1, k, none⟩ = some _ := R.cell.trans (hid.get (by omega))
      have hfr := R.frozen (k := k)
      go_wp2
      go_roundw
      case rel => exact ⟨k + 1, _, by go_num, by omega, clr_step hid (by omega), R.set, room.setApart (by simp), hB.setCell (by simp; omega) _⟩
      case measure => simp [intOf]; omega
    · obtain rfl : k = (160 - b) / 8 := by omega
      by_cases h8 : (160 - b) % 8 = 0
      · have e8 : ((160 - (b : Int)) % 8 != 0) = false := by simp; omega
        have hM : N % 2 ^ (160 - 8 * ((160 - b) / 8)) = N % 2 ^ b := by rw [show 160 - 8 * ((160 - b) / 8) = b by omega]
        rw [hM] at hid
        clear hM
        go_wp2_with (first | (refine load27 hid rfl rfl rfl R ?_) | (refine store27 hid rfl rfl rfl rfl room ?_))
        refine bodyPost_ret (v := .agg d) ?_ rfl ⟨d, hid, rfl, ?_⟩
        · exact res27 hid Try.results13 rfl room.stored
        · exact below_setRow hB (by simp) _
      · have e8 : ((160 - (b : Int)) % 8 != 0) = true := by simp; omega
        have hid' := part_step hb hid h8
        have hcl : wr.cell? ⟨w.heap.size + 1 + 1, (160 - b) / 8, none⟩ = some _ := R.cell.trans (hid.get (by omega))
        have hfr := R.frozen (k := (160 - b) / 8)
        go_upto_region 11 with fail
        go_region
        go_wp2_with (first | (refine load27 hid' rfl rfl rfl R.set.drew ?_) | (refine store27 hid' rfl rfl rfl rfl (room.setApart (by simp)).drew ?_))
        refine bodyPost_ret (v := .agg _) ?_ rfl ⟨_, hid', rfl, ?_⟩
        · exact res27 hid' Try.results13 rfl (room.setApart (by simp)).drew.stored
        · exact below_setRow (hB.setCell (by simp; omega) _).drew (by simp) _

theorem reduce_none (b : Nat) (hb : b ≤ 160) (sp : Option Addr) (len cap : Nat) (zs : Nat → Nat) (N : Nat) (w : World) (hlen : len = 0) (hcap : len ≤ cap) (hcap' : cap ≤ 9223372036854775807)
    (hsrc : 0 < len → ∃ g, sp = some ⟨g, 0, none⟩ ∧ ∀ j, j < len → w.cell? ⟨g, j, none⟩ = some (.int .u8 (zs j)))
    (hN : N < 2 ^ 160) (hbytes : ∀ k, k < 20 → byteAt N k = if 20 ≤ len + k then zs (len + k - 20) else 0) :
    Calls Try.prog 13 #[.agg #[.int .i64 b], .slice sp len cap] w fun e w' => ∃ d, IsId d (N % 2 ^ b) ∧ e = .returned (.agg d) ∧ Below w.heap.size w w' := by
  subst hlen
  have hid := splice_id (zs := zs) (len := 0) (n := 0) (by omega) (by omega) (by omega) hN hbytes
  clear hsrc hbytes
  go_enter Try.func13, Try.ntmps13
  go_upto_region 5 with (refine wpList_copy_splice rfl (.tmp 19) (.tmp 20) 22 22 rfl 5 Try.underlying22 info5 _ _ _ _ _ _ rfl rfl (w.heap.size + 1 + 1) (20 - 0) zeros 27 ?hg (src zs 0 0) ?hn ?hpos ?hfit (src_one _ _ _) (w.heap.size + 2) _ (Below.refl _ _) ?hBg ?_; (case hg => exact new_row (by simp)); (case hn => rw [src_length]; simp); (case hpos => (intro h; rw [src_length] at h; omega)); (case hfit => rw [src_length]; show _ ≤ 20; omega); (case hBg => omega); intro w4 hrow hb4)
  have R : Row w4 (w.heap.size + 1 + 1) _ := ⟨_, hrow.out⟩
  have hcell : w4.cell? ⟨w.heap.size, 0, none⟩ = some (.int .i64 b) := (Row.below (Row.old (Row.old (Row.new rfl))) hb4 (by omega)).cell
  have room : Room w4 (w.heap.size + 1) := (Row.below (Row.old (Row.new (by simp))) hb4 (by omega)).room rfl
  have hB : Below w.heap.size w w4 := ((((Below.refl _ _).alloc (by simp) _).alloc (by simp) _).alloc (by simp <;> omega) _).trans (hb4.mono (by omega))
  clear hrow hb4
  generalize (splice zeros (20 - 0) (src zs 0 0)).toArray = c at hid R
  rw [← Nat.mod_eq_of_lt hN] at hid
  go_wp2
  go_loopw [7] (fun i wr => ∃ (k : Nat) (d : Array Value), i = .int .i64 k ∧ k ≤ (160 - b) / 8 ∧ IsId d (N % 2 ^ (160 - 8 * k)) ∧ Row wr (w.heap.size + 1 + 1) d ∧ Room wr (w.heap.size + 1) ∧ Below w.heap.size w wr) (fun i _ => 20 - (intOf i).toNat)
  case atStart => exact ⟨0, c, rfl, Nat.zero_le _, hid, R, room, hB⟩
  case round =>
    clear hid R room hB hcell
    obtain ⟨k, d, rfl, hk, hid, R, room, hB⟩ := hrel
    by_cases hlt : k < (160 - b) / 8
    · have hcl : wr.cell? ⟨w.heap.size + 1 + 1, k, none⟩ = some _ := R.cell.trans (hid.get (by omega))
      have hfr := R.frozen (k := k)
      go_wp2
      go_roundw
      case rel => exact ⟨k + 1, _, by go_num, by omega, clr_step hid (by omega), R.set, room.setApart (by simp), hB.setCell (by simp; omega) _⟩
      case measure => simp [intOf]; omega
    · obtain rfl : k = (160 - b) / 8 := by omega
      by_cases h8 : (160 - b) % 8 = 0
      · have e8 : ((160 - (b : Int)) % 8 != 0) = false := by simp; omega
        have hM : N % 2 ^ (160 - 8 * ((160 - b) / 8)) = N % 2 ^ b := by rw [show 160 - 8 * ((160 - b) / 8) = b by omega]
        rw [hM] at hid
        clear hM
        go_wp2_with (first | (refine load27 hid rfl rfl rfl R ?_) | (refine store27 hid rfl rfl rfl rfl room ?_))
        refine bodyPost_ret (v := .agg d) ?_ rfl ⟨d, hid, rfl, ?_⟩
        · exact res27 hid Try.results13 rfl room.stored
        · exact below_setRow hB (by simp) _
      · have e8 : ((160 - (b : Int)) % 8 != 0) = true := by simp; omega
        have hid' := part_step hb hid h8
        have hcl : wr.cell? ⟨w.heap.size + 1 + 1, (160 - b) / 8, none⟩ = some _ := R.cell.trans (hid.get (by omega))
        have hfr := R.frozen (k := (160 - b) / 8)
        go_upto_region 11 with fail
        go_region
        go_wp2_with (first | (refine load27 hid' rfl rfl rfl R.set.drew ?_) | (refine store27 hid' rfl rfl rfl rfl (room.setApart (by simp)).drew ?_))
        refine bodyPost_ret (v := .agg _) ?_ rfl ⟨_, hid', rfl, ?_⟩
        · exact res27 hid' Try.results13 rfl (room.setApart (by simp)).drew.stored
        · exact below_setRow (hB.setCell (by simp; omega) _).drew (by simp) _

theorem reduce_any (b : Nat) (hb : b ≤ 160) (sp : Option Addr) (len cap : Nat) (zs : Nat → Nat) (N : Nat) (w : World) (hcap : len ≤ cap) (hcap' : cap ≤ 9223372036854775807)
    (hsrc : 0 < len → ∃ g, sp = some ⟨g, 0, none⟩ ∧ ∀ j, j < len → w.cell? ⟨g, j, none⟩ = some (.int .u8 (zs j)))
    (hN : N < 2 ^ 160) (hbytes : ∀ k, k < 20 → byteAt N k = if 20 ≤ len + k then zs (len + k - 20) else 0) :
    Calls Try.prog 13 #[.agg #[.int .i64 b], .slice sp len cap] w fun e w' => ∃ d, IsId d (N % 2 ^ b) ∧ e = .returned (.agg d) ∧ Below w.heap.size w w' := by
  by_cases h0 : len = 0
  · exact reduce_none b hb sp len cap zs N w h0 hcap hcap' hsrc hN hbytes
  · by_cases h1 : len ≤ 20
    · exact reduce_short b hb sp len cap zs N w ⟨by omega, h1⟩ hcap hcap' hsrc hN hbytes
    · exact reduce_long b hb sp len cap zs N w (by omega) hcap hcap' hsrc hN hbytes

/-- Reduce of an identifier that lies in a variable. -/
theorem reduce_id (b : Nat) (hb : b ≤ 160) {c : Array Value} {N : Nat} (hc : IsId c N) (g : Nat) (w : World) (hg : Row w g c) :
    Calls Try.prog 13 #[.agg #[.int .i64 b], .slice (some ⟨g, 0, none⟩) 20 20] w fun e w' => ∃ d, IsId d (N % 2 ^ b) ∧ e = .returned (.agg d) ∧ Below w.heap.size w w' :=
  reduce_any b hb _ 20 20 (byteAt N) N w (by omega) (by omega) (fun _ => ⟨g, rfl, fun j hj => hg.cell.trans (hc.get hj)⟩) hc.lt
    (fun k hk => by rw [if_pos (by omega)]; congr 1; omega)
end Go.Proofs.Qxb6002790a
