/-
  The contracts of (Space).shift and ZZShift.
-/
import Derived.Test.Qxb6002790aMore
import Derived.Test.Qxb6002790aReduce
import Derived.Test.Qxb6002790aPlain2
import Derived.Deep.MidRow
import Derived.Deep.RegionHeld3
namespace Go.Proofs.Qxb6002790a
open Go.RowKit Plain

theorem first_change (i : Nat) (s : Int) (hs : s = 1 ∨ s = -1) : ∃ ch : Int, wrap64 (s * 2 ^ (i % 8)) = ch ∧ -128 ≤ ch ∧ ch ≤ 128 ∧ ch * 2 ^ (8 * (i / 8)) = s * 2 ^ i := by
  have h : 2 ^ (i % 8) ≤ 2 ^ 7 := Nat.pow_le_pow_right (by decide) (by omega)
  have e : (2 : Int) ^ i = 2 ^ (i % 8) * 2 ^ (8 * (i / 8)) := by rw [← Int.pow_add, show i % 8 + 8 * (i / 8) = i by omega]
  have b : (2 : Int) ^ (i % 8) ≤ 128 := by rw [two_pow_cast]; omega
  have p := two_pow_posI (i % 8)
  have bd : -128 ≤ s * 2 ^ (i % 8) ∧ s * 2 ^ (i % 8) ≤ 128 := by rcases hs with rfl | rfl <;> omega
  refine ⟨s * 2 ^ (i % 8), IntWalk.wrap64_in _ ⟨by omega, by omega⟩, bd.1, bd.2, ?_⟩
  rw [e, Int.mul_assoc]

theorem byte_step {d : Array Value} {M k : Nat} {ch : Int} (hd : IsId d M) (hk : k < 20) : IsId (d.setIfInBounds k (.int .u8 (((byteAt M k : Int) + ch) % 256))) (sb M k (((byteAt M k : Int) + ch) % 256).toNat) := by
  have h0 := Int.emod_nonneg ((byteAt M k : Int) + ch) (show (256 : Int) ≠ 0 by decide)
  have h1 := Int.emod_lt_of_pos ((byteAt M k : Int) + ch) (show (0 : Int) < 256 by decide)
  generalize ((byteAt M k : Int) + ch) % 256 = r at *
  obtain ⟨n, rfl⟩ := Int.eq_ofNat_of_zero_le h0
  rw [Int.toNat_natCast]
  exact hd.set (sb_lt hd.lt hk (by omega)) hk (byteAt_sb_same M k n (by omega)) (fun j hj hne => byteAt_sb_other M k n j (by omega) hk hj hne)

theorem inv_next {M k : Nat} {ch T : Int} (hk : k < 20) (h : ((M : Int) + ch * 2 ^ (8 * (19 - (k : Int)).toNat)) % 2 ^ 160 = T % 2 ^ 160) :
    ((sb M k (((byteAt M k : Int) + ch) % 256).toNat : Nat) + (((byteAt M k : Int) + ch) / 256) * 2 ^ (8 * (19 - ((k : Int) - 1)).toNat)) % 2 ^ 160 = T % 2 ^ 160 := by
  rw [show 8 * (19 - ((k : Int) - 1)).toNat = 8 * (19 - k) + 8 by omega, inv_step, ← h, show (19 - (k : Int)).toNat = 19 - k by omega]

set_option maxHeartbeats 1000000 in
theorem shift_any (b : Nat) (hb : b ≤ 160) {c : Array Value} {N : Nat} (hc : IsId c N) (i : Nat) (hi : i ≤ 9223372036854775807) (s : Int) (hs : s = 1 ∨ s = -1) (w : World) :
    Calls Try.prog 21 #[.agg #[.int .i64 b], .agg c, .int .i64 i, .int .i64 s] w fun e w' => ∃ d, IsId d (shiftTo N i s b) ∧ e = .returned (.agg d) ∧ Below w.heap.size w w' := by
  obtain ⟨ch0, hch0, hl0, hu0, he0⟩ := first_change i s hs
  have He : Hid _ := he0
  clear he0
  go_enter Try.func21, Try.ntmps21
  go_wp2
  simp only [hch0]
  go_loopw [9, 10] (fun t x wr => ∃ (p ch : Int) (d : Array Value) (M : Nat), t = .int .i64 p ∧ x = .int .i64 ch ∧ p ≤ 19 ∧ -9223372036854775807 ≤ p ∧ -128 ≤ ch ∧ ch ≤ 128 ∧ IsId d M ∧ Hid (((M : Int) + ch * 2 ^ (8 * (19 - p).toNat)) % 2 ^ 160 = ((N : Int) + s * 2 ^ i) % 2 ^ 160)
      ∧ Row wr w.heap.size #[.int .i64 b] ∧ Row wr (w.heap.size + 1) d ∧ Room wr (w.heap.size + 1 + 1) ∧ Below w.heap.size w wr) (fun t _ _ => (intOf t + 1).toNat)
  case atStart =>
    refine ⟨_, _, c, N, rfl, rfl, by omega, by omega, hl0, hu0, hc, ?_, Row.old (Row.old (Row.new rfl)), Row.old (Row.new (by simp)), Row.room (Row.new (by simp)) rfl, ((((Below.refl _ _).alloc (by simp) _).alloc (by simp) _).alloc (by simp <;> omega) _)⟩
    show _ % _ = _ % _
    rw [show (19 - (19 - (i : Int) / 8)).toNat = i / 8 by omega, He.out]
  case round =>
    clear hch0 hl0 hu0 He hc
    obtain ⟨p, ch, d, M, rfl, rfl, hp, hp', hl, hu, hd, Hinv, R4, R5, room, hB⟩ := hrel
    by_cases hgo : 0 ≤ p ∧ ch ≠ 0
    · obtain ⟨hp0, hne⟩ := hgo
      obtain ⟨k, rfl⟩ := Int.eq_ofNat_of_zero_le hp0
      have hne' : (ch != 0) = true := by simp [hne]
      have hcl : wr.cell? ⟨w.heap.size + 1, k, none⟩ = some _ := R5.cell.trans (hd.get (by omega))
      have hfr := R5.frozen (k := k)
      have hby := byteAt_lt M k
      go_wp2
      go_roundw
      case rel => exact ⟨_, _, _, _, rfl, rfl, by omega, by omega, by omega, by omega, byte_step hd (by omega), inv_next (by omega) Hinv.out, R4.setApart (by simp), R5.set, room.setApart (by simp), hB.setCell (by simp) _⟩
      case measure => simp [intOf]
    · have hend := inv_end (b := b) Hinv.out (by omega) hb
      have hcl : wr.cell? ⟨w.heap.size, 0, none⟩ = some _ := R4.cell
      have hex : p < 0 ∨ (0 ≤ p ∧ (ch != 0) = false) := by
        by_cases h1 : p < 0
        · exact .inl h1
        · exact .inr ⟨by omega, by simp; omega⟩
      clear Hinv hgo hp' hl hu
      have Hend : Hid _ := hend
      clear hend
      rcases hex with hex | ⟨hex, hex'⟩
      all_goals
        go_upto_region 8 with fail
        go_region_with (go_at_call 13; refine (reduce_id b hb hd (w.heap.size + 1) _ ?_).mono ?_; exact Row.drew R5; rintro e w2 ⟨d2, hd2, rfl, hb2⟩; have hdz := hd2.size; have hst := store_rule hd2; have hr2 := Room.kept (Room.drew room) hb2)
        go_wp2
        refine bodyPost_ret (v := .agg d2) (res27 hd2 Try.results21 rfl hr2.stored) rfl ⟨d2, ?_, rfl, below_setRow (kept (kept_drew hB) hb2) (by omega) _⟩
        unfold shiftTo
        rw [← Hend.out]
        exact hd2

theorem zzShift_any (b : Nat) (hb : b ≤ 160) {c : Array Value} {N : Nat} (hc : IsId c N) (i : Nat) (hi : i ≤ 9223372036854775807) (s : Int) (hs : s = 1 ∨ s = -1) (w : World) :
    Calls Try.prog 19 #[.agg #[.int .i64 b], .agg c, .int .i64 i, .int .i64 s] w fun e w' => ∃ d, IsId d (shiftTo N i s b) ∧ e = .returned (.agg d) ∧ Below w.heap.size w w' := by
  have Hs : Hid _ := hs
  clear hs
  go_enter Try.func19, Try.ntmps19
  go_wp2_with (first
    | (with_reducible refine at_load27 ?_; refine load27 hc rfl rfl rfl ?hg ?_; case hg => exact Row.old (Row.new (by simp)))
    | (go_at_call 21; refine (shift_any b hb hc i hi s Hs.out _).mono ?_; rintro e w2 ⟨d, hd, rfl, hb2⟩)
    | (with_reducible refine at_store27 ?_; refine store27 hd rfl rfl rfl rfl ?hr ?_; case hr => exact Room.kept (Row.room (Row.new (by simp)) rfl) hb2))
  refine bodyPost_ret (v := .agg d) (res27 hd Try.results19 rfl (Room.kept (Row.room (Row.new (by simp)) rfl) hb2).stored) rfl ⟨d, hd, rfl, below_setRow (kept ((((Below.refl _ _).alloc (by simp) _).alloc (by simp) _).alloc (by simp <;> omega) _) hb2) (by omega) _⟩

/-! ### 'x := s.Reduce(y[:])', s in a variable: the two places at which the new variable may come to lie -/
section
variable {W w2 : World} {Z d : Array Value} {t : TypeId}
theorem meet_after (hz : Z.size = 20) (hb2 : Below W.drew.heap.size W.drew w2) :
    Row ((w2.alloc (.cells Z t)).setRow w2.heap.size d) w2.heap.size d ∧ Below W.heap.size W ((w2.alloc (.cells Z t)).setRow w2.heap.size d) := by
  have k : Below W.heap.size W w2 := kept (kept_drew (Below.refl _ W)) hb2
  exact ⟨(Room.new hz).stored, below_setRow (kept_alloc k _) k.size _⟩
theorem meet_ahead (hz : Z.size = 20) (hb2 : Below (W.alloc (.cells Z t)).drew.heap.size (W.alloc (.cells Z t)).drew w2) :
    Row (w2.setRow W.heap.size d) W.heap.size d ∧ Below W.heap.size W (w2.setRow W.heap.size d) := by
  have k : Below W.heap.size W (W.alloc (.cells Z t)) := kept_alloc (Below.refl _ W) _
  exact ⟨((Room.new hz).drew.kept hb2).stored, below_setRow (kept (kept_drew k) hb2) (Nat.le_refl _) _⟩
/-- A store into the variable that was made last. -/
theorem meet_plain (hz : Z.size = 20) (hb2 : Below W.heap.size W w2) :
    Row ((w2.alloc (.cells Z t)).setRow w2.heap.size d) w2.heap.size d ∧ Below W.heap.size W ((w2.alloc (.cells Z t)).setRow w2.heap.size d) :=
  ⟨(Room.new hz).stored, below_setRow (kept_alloc hb2 _) hb2.size _⟩
end
/-! ### Loads that may be taken first in a region that draws its order -/
section
variable {ops : Array Oper} {S : World → Prop} {o : Oper} {a : Act} {x : Operand} {g : Nat} {c : Array Value} {N : Nat}
theorem yields_load27 (hc : IsId c N) (hw : Region.wanted o (yielded ops a.tmps) = true) (ho : o.op = .load 27 x) (hx : a.eval x = .pointer (some ⟨g, 0, none⟩)) (hS : ∀ w, S w → Row w g c) : YieldsIf Try.prog ops S o (.agg c) a :=
  .inl ⟨hw, fun w hw' => by
    obtain ⟨t, hg⟩ := hS w hw'
    unfold execOp
    simp only [ho, hx, Instr.loadAt, Instr.sureAddr, Sem.run_bind, Sem.run_pure, Result.andThen_ok, run_loadVar_row w g t 27 c (0, 0) _ hg under27 rfl (size27 hc.size)]⟩
theorem yields_load24 (hc : IsId c N) (hw : Region.wanted o (yielded ops a.tmps) = true) (ho : o.op = .load 24 x) (hx : a.eval x = .pointer (some ⟨g, 0, none⟩)) (hS : ∀ w, S w → Row w g c) : YieldsIf Try.prog ops S o (.agg c) a :=
  .inl ⟨hw, fun w hw' => by
    obtain ⟨t, hg⟩ := hS w hw'
    unfold execOp
    simp only [ho, hx, Instr.loadAt, Instr.sureAddr, Sem.run_bind, Sem.run_pure, Result.andThen_ok, run_loadVar_row w g t 24 c (0, 0) _ hg Try.underlying24 rfl (size24 hc.size)]⟩
theorem info29 (v : Value) : (Try.prog.info? 29).map (·.size) = some (#[v] : Array Value).size := by
  show _ = some 1
  kernel_rfl
theorem yields_load29 {v : Value} (hw : Region.wanted o (yielded ops a.tmps) = true) (ho : o.op = .load 29 x) (hx : a.eval x = .pointer (some ⟨g, 0, none⟩)) (hS : ∀ w, S w → Row w g #[v]) : YieldsIf Try.prog ops S o (.agg #[v]) a :=
  .inl ⟨hw, fun w hw' => by
    obtain ⟨t, hg⟩ := hS w hw'
    unfold execOp
    simp only [ho, hx, Instr.loadAt, Instr.sureAddr, Sem.run_bind, Sem.run_pure, Result.andThen_ok, run_loadVar_row w g t 29 #[v] (0, 0) _ hg Try.underlying29 rfl (info29 v)]⟩
end
theorem Row.range {w : World} {g : Nat} {c : Array Value} (h : Row w g c) : w.rangeAt g 0 c.toList := by
  intro j v hj
  rw [Nat.zero_add, h.cell]
  simpa using hj
end Go.Proofs.Qxb6002790a
