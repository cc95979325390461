/-
  zzCmp; the comparison of two identifiers.
-/
import Derived.Test.Qxb6002790aIds
import Derived.Stop.BytesEq
namespace Go.Proofs.Qxb6002790a
open Go.RowKit Plain

theorem Row.drewN {w : World} {g : Nat} {cs : Array Value} (h : Row w g cs) (n : Nat) : Row (w.drewN n) g cs := h

theorem zzCmp_le {c d : Array Value} {N M : Nat} (hc : IsId c N) (hd : IsId d M) (hle : N ≤ M) (w : World) :
    Calls Try.prog 14 #[.agg c, .agg d] w fun e w' => ∃ r : Int, r ≤ 0 ∧ e = .returned (.int .i64 r) ∧ Below w.heap.size w w' := by
  go_enter Try.func14, Try.ntmps14
  go_wp2
  go_loopw [5] (fun i wr => ∃ k : Nat, i = .int .i64 k ∧ k ≤ 20 ∧ (∀ j, j < k → byteAt N j = byteAt M j) ∧ Row wr w.heap.size c ∧ Row wr (w.heap.size + 1) d ∧ Below w.heap.size w wr) (fun i _ => 20 - (intOf i).toNat)
  case atStart => exact ⟨0, rfl, Nat.zero_le _, fun j hj => absurd hj (by omega), Row.old (Row.new rfl), Row.new (by simp), ((Below.refl _ _).alloc (by simp) _).alloc (by simp) _⟩
  case round =>
    obtain ⟨k, rfl, hk, hsame, Rc, Rd, hB⟩ := hrel
    by_cases hlt : k < 20
    · have hx := Rc.cell.trans (hc.get hlt)
      have hy := Rd.cell.trans (hd.get hlt)
      have hxy := byte_le hc.lt hd.lt hle hlt hsame
      have hx' := byteAt_lt N k
      have hy' := byteAt_lt M k
      by_cases heq : byteAt N k = byteAt M k
      · have hsame' : ∀ j, j < k + 1 → byteAt N j = byteAt M j := by
          intro j hj
          by_cases e : j = k
          · rw [e]; exact heq
          · exact hsame j (by omega)
        clear hsame
        have HS : Hid _ := hsame'
        clear hsame'
        rw [heq] at hx
        clear heq hxy hx'
        generalize byteAt M k = y at hx hy hy'
        go_wp2
        go_quiet (fail)
        go_wp2
        go_quiet (fail)
        go_wp2
        go_roundw
        case rel => exact ⟨k + 1, by go_num, by omega, HS.out, Rc, Rd, ⟨hB.os, hB.tape, hB.output, hB.size, hB.block⟩⟩
        case measure => simp [intOf]; omega
      · clear hsame
        have hlt' : byteAt N k < byteAt M k := by omega
        clear heq hxy
        generalize byteAt N k = x at *
        generalize byteAt M k = y at *
        go_wp2
        go_quiet (fail)
        go_wp2
        go_ret
        exact ⟨-1, by omega, rfl, ⟨hB.os, hB.tape, hB.output, hB.size, hB.block⟩⟩
    · go_wp2
      go_ret
      exact ⟨0, by omega, rfl, hB⟩

/-! ### Guards: 'with_reducible refine at_load27 ?_' goes through where the next operation is such a load, and fails at once elsewhere -/
section
variable {P : Program} {ops : Array Oper} {rest : List Oper} {a : Act} {w : World} {Q : Exit → Act → World → Prop} {x y : Operand} {d : Option Tmp} {ty : TypeId} {pos : String} {after : Array Edge} {g : Option (Nat × Bool)}
theorem at_load24 (h : wpList P ops Q (⟨d, .load 24 x, ty, pos, after, g⟩ :: rest) a w) : wpList P ops Q (⟨d, .load 24 x, ty, pos, after, g⟩ :: rest) a w := h
theorem at_load27 (h : wpList P ops Q (⟨d, .load 27 x, ty, pos, after, g⟩ :: rest) a w) : wpList P ops Q (⟨d, .load 27 x, ty, pos, after, g⟩ :: rest) a w := h
theorem at_store24 (h : wpList P ops Q (⟨d, .store 24 x y, ty, pos, after, g⟩ :: rest) a w) : wpList P ops Q (⟨d, .store 24 x y, ty, pos, after, g⟩ :: rest) a w := h
theorem at_store27 (h : wpList P ops Q (⟨d, .store 27 x y, ty, pos, after, g⟩ :: rest) a w) : wpList P ops Q (⟨d, .store 27 x y, ty, pos, after, g⟩ :: rest) a w := h
end

/-! ### The two loads under a guard that says yes -/
section
variable {ops : Array Oper} {rest : List Oper} {o : Oper} {a : Act} {w : World} {Q : Exit → Act → World → Prop} {x : Operand} {g : Nat} {c : Array Value} {N : Nat}
theorem load24g (hc : IsId c N) (hw : Region.wanted o (yielded ops a.tmps) = true) (ho : o.op = .load 24 x) (hx : a.eval x = .pointer (some ⟨g, 0, none⟩)) (hg : Row w g c)
    (h : wpList Try.prog ops Q rest (a.put o.dst (.agg c)) w) : wpList Try.prog ops Q (o :: rest) a w := by
  obtain ⟨t, hg⟩ := hg
  refine wpList_step fun K hK => ?_
  rw [if_pos hw]
  exact wp_load_row 24 x ho g hx t c (0, 0) _ hg Try.underlying24 rfl (size24 hc.size) (hK _ _ h)
theorem load27g (hc : IsId c N) (hw : Region.wanted o (yielded ops a.tmps) = true) (ho : o.op = .load 27 x) (hx : a.eval x = .pointer (some ⟨g, 0, none⟩)) (hg : Row w g c)
    (h : wpList Try.prog ops Q rest (a.put o.dst (.agg c)) w) : wpList Try.prog ops Q (o :: rest) a w := by
  obtain ⟨t, hg⟩ := hg
  refine wpList_step fun K hK => ?_
  rw [if_pos hw]
  exact wp_load_row 27 x ho g hx t c (0, 0) _ hg under27 rfl (size27 hc.size) (hK _ _ h)
end

/-! ### Small steps -/
theorem Row.kept {w w' : World} {g : Nat} {cs : Array Value} (h : Row w g cs) (hb : Below w.heap.size w w') : Row w' g cs := h.below hb h.lt
theorem kept {a w w' : World} (h : Below a.heap.size a w) (k : Below w.heap.size w w') : Below a.heap.size a w' := h.trans (k.mono h.size)
theorem kept_alloc {a w : World} (h : Below a.heap.size a w) (o : Obj) : Below a.heap.size a (w.alloc o) := h.alloc h.size o
theorem kept_drew {a w : World} (h : Below a.heap.size a w) : Below a.heap.size a w.drew := h.drew
/-- The world under a name, with what is known of it. -/
theorem wp_gen {P : Program} {s : Code} {Q : Exit → Act → World → Prop} {a : Act} {w : World} (R : World → Prop) (h : R w) (k : ∀ w, R w → s.wp P Q a w) : s.wp P Q a w := k w h

/-- A whole identifier is stored, as the walk's own steps leave it. -/
theorem store_rule {d : Array Value} {M : Nat} (hd : IsId d M) : ∀ (W : World) (g : Nat), Room W g → (storeCells ⟨g, 0, none⟩ d.toList).run Try.prog W = .ok () (W.setRow g d) := by
  intro W g h
  obtain ⟨old, ⟨t, hg⟩, hz⟩ := h
  have hs := size27 hd.size
  have := run_storeVar_row (P := Try.prog) W g t 27 old d hg hs (by rw [hz, hd.size]) hd.one
  cases hq : Try.prog.info? 27 with
  | none => simp [hq] at hs
  | some i =>
    have hs' : d.size = i.size := by simp [hq] at hs; omega
    simpa [storeVar, sizeOf, typeInfo, hq, Value.cells, hs'] using this
theorem Room.kept {w w' : World} {g : Nat} (h : Room w g) (hb : Below w.heap.size w w') : Room w' g := by
  obtain ⟨cs, r, z⟩ := h
  exact ⟨cs, r.kept hb, z⟩
theorem Room.old {w : World} {g : Nat} {o : Obj} (h : Room w g) : Room (w.alloc o) g := by
  obtain ⟨cs, r, z⟩ := h
  exact ⟨cs, r.old, z⟩
theorem Room.new {w : World} {cs : Array Value} {t : TypeId} (h : cs.size = 20) : Room (w.alloc (.cells cs t)) w.heap.size := ⟨cs, Row.new rfl, h⟩

/-! ### 'x := Space.Reduce(y[:])': the three places at which the new variable may come to lie -/
section
variable {W w1 w2 : World} {Z d : Array Value} {t : TypeId}
theorem meet_last (hz : Z.size = 20) (hb1 : Below W.drew.heap.size W.drew w1) (hb2 : Below w1.heap.size w1 w2) :
    Row ((w2.alloc (.cells Z t)).setRow w2.heap.size d) w2.heap.size d ∧ Below W.heap.size W ((w2.alloc (.cells Z t)).setRow w2.heap.size d) := by
  have k : Below W.heap.size W w2 := kept (kept (kept_drew (Below.refl _ W)) hb1) hb2
  exact ⟨(Room.new hz).stored, below_setRow (kept_alloc k _) k.size _⟩
theorem meet_mid (hz : Z.size = 20) (hb1 : Below W.drew.heap.size W.drew w1) (hb2 : Below (w1.alloc (.cells Z t)).heap.size (w1.alloc (.cells Z t)) w2) :
    Row (w2.setRow w1.heap.size d) w1.heap.size d ∧ Below W.heap.size W (w2.setRow w1.heap.size d) := by
  have k : Below W.heap.size W w1 := kept (kept_drew (Below.refl _ W)) hb1
  exact ⟨((Room.new hz).kept hb2).stored, below_setRow (kept (kept_alloc k _) hb2) k.size _⟩
theorem meet_first (hz : Z.size = 20) (hb1 : Below (W.alloc (.cells Z t)).drew.heap.size (W.alloc (.cells Z t)).drew w1) (hb2 : Below w1.heap.size w1 w2) :
    Row (w2.setRow W.heap.size d) W.heap.size d ∧ Below W.heap.size W (w2.setRow W.heap.size d) := by
  have k : Below W.heap.size W (W.alloc (.cells Z t)) := kept_alloc (Below.refl _ W) _
  exact ⟨(((Room.new hz).drew.kept hb1).kept hb2).stored, below_setRow (kept (kept (kept_drew k) hb1) hb2) (Nat.le_refl _) _⟩
end

/-! ### '==' and '!=' on identifiers -/
def bytesOf (N : Nat) : List UInt8 := (List.range 20).map fun k => UInt8.ofNat (byteAt N k)
theorem bytesOf_length (N : Nat) : (bytesOf N).length = 20 := by simp [bytesOf]
theorem cells_bytes (N : Nat) : cells N = ((bytesOf N).map Extern.Stop.cell).toArray := by
  apply Array.ext_getElem?
  intro k
  by_cases hk : k < 20
  · rw [cells_get N hk]
    have hb := byteAt_lt N k
    simp only [bytesOf, List.getElem?_toArray, List.getElem?_map, List.getElem?_range hk, Option.map_some, Extern.Stop.cell]
    rw [show (UInt8.ofNat (byteAt N k)).toNat = byteAt N k from by simp; omega]
    rfl
  · rw [Array.getElem?_eq_none (xs := cells N) (by rw [cells_size]; omega), Array.getElem?_eq_none (by rw [List.size_toArray, List.length_map, bytesOf_length]; omega)]
theorem bytes_eq {c d : Array Value} {N M : Nat} (hc : IsId c N) (hd : IsId d M) : (bytesOf N == bytesOf M) = decide (N = M) := by
  rw [Bool.eq_iff_iff]
  simp only [beq_iff_eq, decide_eq_true_eq]
  constructor
  · intro h
    exact cells_inj hc.lt hd.lt (by rw [cells_bytes, cells_bytes, h])
  · intro h; rw [h]
theorem eq24 {c d : Array Value} {N M : Nat} (hc : IsId c N) (hd : IsId d M) (w : World) : (Op.equalIn 10000 24 (.agg c) (.agg d)).run Try.prog w = .ok (decide (N = M)) w := by
  rw [← bytes_eq hc hd, hc.2, hd.2, cells_bytes, cells_bytes]
  exact run_equalIn_bytes w 9998 24 5 20 Try.underlying24 Try.underlying5 Try.sizeOf5 _ _ (bytesOf_length _) (bytesOf_length _)
theorem eq27 {c d : Array Value} {N M : Nat} (hc : IsId c N) (hd : IsId d M) (w : World) : (Op.equalIn 10000 27 (.agg c) (.agg d)).run Try.prog w = .ok (decide (N = M)) w := by
  rw [← bytes_eq hc hd, hc.2, hd.2, cells_bytes, cells_bytes]
  exact run_equalIn_bytes w 9998 27 5 20 Try.underlying27 Try.underlying5 Try.sizeOf5 _ _ (bytesOf_length _) (bytesOf_length _)

theorem eq24_true {c d : Array Value} {N M : Nat} (hc : IsId c N) (hd : IsId d M) (h : N = M) (w : World) : (Op.equalIn 10000 24 (.agg c) (.agg d)).run Try.prog w = .ok true w := by
  rw [eq24 hc hd]; simp [h]
theorem eq27_true {c d : Array Value} {N M : Nat} (hc : IsId c N) (hd : IsId d M) (h : N = M) (w : World) : (Op.equalIn 10000 27 (.agg c) (.agg d)).run Try.prog w = .ok true w := by
  rw [eq27 hc hd]; simp [h]
theorem eq27_false {c d : Array Value} {N M : Nat} (hc : IsId c N) (hd : IsId d M) (h : N ≠ M) (w : World) : (Op.equalIn 10000 27 (.agg c) (.agg d)).run Try.prog w = .ok false w := by
  rw [eq27 hc hd]; simp [h]
end Go.Proofs.Qxb6002790a
