/-
  The contracts of zzBytes_FnReduceKeepsLowBits and zzBit; small facts for FnReduceKeepsLowBits.
-/
import Derived.Test.Qxb6002790aMore
import Derived.Test.Qxb6002790aReduce
namespace Go.Proofs.Qxb6002790a
open Go.RowKit Plain

theorem zzBytes_yes (a : Int) (sp : Option Addr) (len cap : Nat) (w : World) (h : len ≤ 1048576) :
    Calls Try.prog 9 #[.int .i64 a, .slice sp len cap] w fun e w' => e = .returned (.bool true) ∧ w' = w := by
  go_enter Try.func9, Try.ntmps9
  go_wp2
  go_ret
  exact ⟨rfl, rfl⟩
theorem zzBytes_no (a : Int) (sp : Option Addr) (len cap : Nat) (w : World) (h : 1048576 < len) :
    Calls Try.prog 9 #[.int .i64 a, .slice sp len cap] w fun e w' => e = .returned (.bool false) ∧ w' = w := by
  go_enter Try.func9, Try.ntmps9
  go_wp2
  go_ret
  exact ⟨rfl, rfl⟩

/-- What is known of a slice of bytes that begins at its block's head: its bytes are zs; the last twenty of them (noughts ahead) are the number N. -/
def Holds20 (w : World) (sp : Option Addr) (len : Nat) (zs : Nat → Nat) (N : Nat) : Prop :=
  (0 < len → ∃ g, sp = some ⟨g, 0, none⟩ ∧ ∀ j, j < len → w.cell? ⟨g, j, none⟩ = some (.int .u8 (zs j))) ∧ N < 2 ^ 160 ∧ ∀ k, k < 20 → byteAt N k = if 20 ≤ len + k then zs (len + k - 20) else 0

theorem Holds20.kept {w w' : World} {sp : Option Addr} {len : Nat} {zs : Nat → Nat} {N : Nat} (h : Holds20 w sp len zs N) (hb : Below w.heap.size w w') : Holds20 w' sp len zs N := by
  refine ⟨fun hl => ?_, h.2⟩
  obtain ⟨g, e, hc⟩ := h.1 hl
  exact ⟨g, e, fun j hj => (hb.cell (block_lt_of_cell (hc j hj))).trans (hc j hj)⟩

theorem zzBit_any {sp : Option Addr} {len cap : Nat} {zs : Nat → Nat} {N : Nat} (p : Nat) (w : World) (hlen : len ≤ 1048576) (hp : p < 160) (h : Holds20 w sp len zs N) :
    Calls Try.prog 10 #[.slice sp len cap, .int .i64 p] w fun e w' => e = .returned (.int .u8 (N / 2 ^ p % 2 : Nat)) ∧ w' = w := by
  obtain ⟨hs, hN, hb⟩ := h
  have hbk := hb (19 - p / 8) (by omega)
  rw [← bit_and N p hp]
  by_cases hk : p / 8 < len
  · rw [if_pos (by omega), show len + (19 - p / 8) - 20 = len - 1 - p / 8 by omega] at hbk
    obtain ⟨g, rfl, hc⟩ := hs (by omega)
    have hcl := hc (len - 1 - p / 8) (by omega)
    have hlt := byteAt_lt N (19 - p / 8)
    rw [← hbk] at hcl
    clear hbk hc hs hb
    go_enter Try.func10, Try.ntmps10
    go_wp2
    go_ret
    exact ⟨rfl, rfl⟩
  · rw [if_neg (by omega)] at hbk
    rw [hbk, show bits .and .u8 (((0 : Nat) : Int) / 2 ^ (p % 8)) 1 = 0 from by rw [show ((0 : Nat) : Int) = 0 from rfl, Int.zero_ediv]; decide]
    clear hbk hs hb
    go_enter Try.func10, Try.ntmps10
    go_wp2
    go_ret
    exact ⟨rfl, rfl⟩

/-! ### The bits gathered so far -/
theorem bits_one (N p : Nat) (h : N / 2 ^ p % 2 = 1) : wb (N % 2 ^ p) p 1 = N % 2 ^ (p + 1) := by
  have hl : N % 2 ^ p < 2 ^ p := Nat.mod_lt _ (Nat.two_pow_pos p)
  rw [wb_one _ _ (by rw [Nat.div_eq_of_lt hl]), Nat.mod_pow_succ, h, Nat.mul_one]
theorem bits_zero (N p : Nat) (h : N / 2 ^ p % 2 = 0) : N % 2 ^ p = N % 2 ^ (p + 1) := by
  rw [Nat.mod_pow_succ, h, Nat.mul_zero, Nat.add_zero]
end Go.Proofs.Qxb6002790a
