/-
  An identifier of the ring (20 bytes, big-endian) told by a natural number: its cells; the contracts of the small functions.
-/
import Derived.Test.Qxb6002790aRows
import Derived.Test.Qxb6002790aPlain
import Derived.WalkKit
import Derived.WalkSpells
import Derived.WalkLawsBesides
import Derived.RowKit3
import Derived.Below
import Derived.Deep.WholeRow
import Derived.Deep.DeepCutAuto
import Derived.Deep.RegionWith
import Derived.Deep.QuietTactic
import Derived.BigQuiet
import Derived.Laws.CopyOwn
namespace Go.Proofs.Qxb6002790a
open Go.RowKit Plain

/-- The 20 cells of the number N. -/
def cells (N : Nat) : Array Value := Array.ofFn fun k : Fin 20 => .int .u8 (byteAt N k)

theorem cells_size (N : Nat) : (cells N).size = 20 := by simp [cells]
theorem cells_get (N : Nat) {k : Nat} (h : k < 20) : (cells N)[k]? = some (.int .u8 (byteAt N k)) := by simp [cells, h]
theorem cells_one (N : Nat) : (cells N).all (·.oneCell') = true := by
  rw [Array.all_eq_true]
  intro i hi
  have h := cells_get N (k := i) (by rw [cells_size] at hi; exact hi)
  rw [Array.getElem?_eq_getElem hi] at h
  simp only [Option.some.injEq] at h
  rw [h]; rfl

/-- One byte stored. -/
theorem cells_set {N M k : Nat} {b : Nat} (hk : k < 20) (h1 : byteAt M k = b) (h2 : ∀ j, j < 20 → j ≠ k → byteAt M j = byteAt N j) : (cells N).setIfInBounds k (.int .u8 b) = cells M := by
  apply Array.ext_getElem?
  intro j
  rw [Array.getElem?_setIfInBounds]
  by_cases hj : j < 20
  · rw [cells_get M hj]
    by_cases e : k = j
    · subst e
      simp [cells_size, hk, h1]
    · rw [if_neg e, cells_get N hj, h2 j hj (fun x => e x.symm)]
  · have : ¬ k = j := by omega
    rw [if_neg this, Array.getElem?_eq_none (by rw [cells_size]; omega), Array.getElem?_eq_none (by rw [cells_size]; omega)]

theorem cells_inj {N M : Nat} (hN : N < 2 ^ 160) (hM : M < 2 ^ 160) (h : cells N = cells M) : N = M := by
  refine byteAt_ext hN hM fun k hk => ?_
  have h1 := cells_get N hk
  rw [h, cells_get M hk] at h1
  simp at h1
  omega

/-- c are the cells of the number N, which 20 bytes hold. -/
def IsId (c : Array Value) (N : Nat) : Prop := N < 2 ^ 160 ∧ c = cells N

theorem IsId.mk {N : Nat} (h : N < 2 ^ 160) : ∃ c, IsId c N := ⟨_, h, rfl⟩
theorem IsId.lt {c : Array Value} {N : Nat} (h : IsId c N) : N < 2 ^ 160 := h.1
theorem IsId.size {c : Array Value} {N : Nat} (h : IsId c N) : c.size = 20 := by rw [h.2]; exact cells_size N
theorem IsId.one {c : Array Value} {N : Nat} (h : IsId c N) : c.all (·.oneCell') = true := by rw [h.2]; exact cells_one N
theorem IsId.get {c : Array Value} {N : Nat} (h : IsId c N) {k : Nat} (hk : k < 20) : c[k]? = some (.int .u8 (byteAt N k)) := by rw [h.2]; exact cells_get N hk
theorem IsId.same {c d : Array Value} {N : Nat} (h : IsId c N) (k : IsId d N) : c = d := h.2.trans k.2.symm
theorem IsId.inj {c : Array Value} {N M : Nat} (h : IsId c N) (k : IsId c M) : N = M := cells_inj h.1 k.1 (h.2.symm.trans k.2)
/-- One byte stored. -/
theorem IsId.set {c : Array Value} {N M k b : Nat} (h : IsId c N) (hM : M < 2 ^ 160) (hk : k < 20) (h1 : byteAt M k = b) (h2 : ∀ j, j < 20 → j ≠ k → byteAt M j = byteAt N j) : IsId (c.setIfInBounds k (.int .u8 b)) M :=
  ⟨hM, by rw [h.2]; exact cells_set hk h1 h2⟩

/-- The cells of a type's size. -/
theorem size24 {c : Array Value} (h : c.size = 20) : (Try.prog.info? 24).map (·.size) = some c.size := by rw [h]; kernel_rfl
theorem size27 {c : Array Value} (h : c.size = 20) : (Try.prog.info? 27).map (·.size) = some c.size := by rw [h]; kernel_rfl

theorem under27 : Try.prog.underlying 27 = some (.array 20 5) := by kernel_rfl

theorem bit_and (N p : Nat) (hp : p < 160) : bits .and .u8 ((byteAt N (19 - p / 8) : Int) / 2 ^ (p % 8)) 1 = ((N / 2 ^ p % 2 : Nat) : Int) := by
  rw [← bit_byte N p hp]
  have hb := byteAt_lt N (19 - p / 8)
  generalize byteAt N (19 - p / 8) = b at *
  have e : ((b : Int) / 2 ^ (p % 8)) = ((b / 2 ^ (p % 8) : Nat) : Int) := by simp
  have hl : b / 2 ^ (p % 8) < 256 := Nat.lt_of_le_of_lt (Nat.div_le_self _ _) hb
  rw [e, show (1 : Int) = ((1 : Nat) : Int) from rfl, u8_and_nat _ _ hl (by decide), Nat.and_one_is_mod]

/-! ### A block of cells, told whole -/
def Row (w : World) (g : Nat) (cs : Array Value) : Prop := ∃ t, w.heap[g]? = some (.cells cs t (0, 0))

theorem Row.new {w : World} {g : Nat} {cs : Array Value} {t : TypeId} (h : g = w.heap.size) : Row (w.alloc (.cells cs t)) g cs := by subst h; exact ⟨t, heap_alloc_last w _⟩
theorem Row.lt {w : World} {g : Nat} {cs : Array Value} (h : Row w g cs) : g < w.heap.size := by
  obtain ⟨t, h⟩ := h
  exact (Array.getElem?_eq_some_iff.1 h).1
theorem Row.old {w : World} {g : Nat} {cs : Array Value} {o : Obj} (h : Row w g cs) : Row (w.alloc o) g cs := by
  have l := h.lt
  obtain ⟨t, h⟩ := h
  exact ⟨t, (Below.heap_alloc w o g l).trans h⟩
theorem Row.drew {w : World} {g : Nat} {cs : Array Value} (h : Row w g cs) : Row w.drew g cs := h
theorem Row.stored {w : World} {g : Nat} {cs ds : Array Value} (h : Row w g ds) : Row (w.setRow g cs) g cs := by
  obtain ⟨t, h⟩ := h
  exact ⟨t, setRow_heap w g ds cs t _ h⟩
theorem Row.apart {w : World} {g k : Nat} {cs ds : Array Value} (hk : g ≠ k) (h : Row w g cs) : Row (w.setRow k ds) g cs := by
  obtain ⟨t, h⟩ := h
  exact ⟨t, (setRow_other w k g ds hk).trans h⟩
theorem Row.set {w : World} {g i : Nat} {cs : Array Value} {v : Value} (h : Row w g cs) : Row (w.setCell ⟨g, i, none⟩ v) g (cs.setIfInBounds i v) := by
  obtain ⟨t, h⟩ := h
  exact ⟨t, heap_setCell_same w g i cs t v h⟩
theorem Row.setApart {w : World} {g : Nat} {a : Addr} {cs : Array Value} {v : Value} (hk : g ≠ a.block) (h : Row w g cs) : Row (w.setCell a v) g cs := by
  obtain ⟨t, h⟩ := h
  exact ⟨t, (heap_setCell_other w a g v hk).trans h⟩
theorem Row.below {B : Nat} {w w' : World} {g : Nat} {cs : Array Value} (h : Row w g cs) (hb : Below B w w') (hg : g < B) : Row w' g cs := by
  obtain ⟨t, h⟩ := h
  exact ⟨t, (hb.block g hg).trans h⟩
theorem Row.cell {w : World} {g k : Nat} {cs : Array Value} (h : Row w g cs) : w.cell? ⟨g, k, none⟩ = cs[k]? := by
  obtain ⟨t, h⟩ := h
  exact cell_of_row w g k cs t _ h
theorem Row.frozen {w : World} {g k : Nat} {cs : Array Value} (h : Row w g cs) : w.frozen? ⟨g, k, none⟩ = false := by
  obtain ⟨t, h⟩ := h
  exact frozen_of_row w g k cs t h

/-- There is room for an identifier. -/
def Room (w : World) (g : Nat) : Prop := ∃ cs, Row w g cs ∧ cs.size = 20
theorem Row.room {w : World} {g : Nat} {c : Array Value} (h : Row w g c) (hz : c.size = 20) : Room w g := ⟨c, h, hz⟩

theorem Room.stored {w : World} {g : Nat} {cs : Array Value} (h : Room w g) : Row (w.setRow g cs) g cs := by
  obtain ⟨ds, r, _⟩ := h
  exact r.stored
theorem Room.drew {w : World} {g : Nat} (h : Room w g) : Room w.drew g := h
theorem Room.setApart {w : World} {g : Nat} {a : Addr} {v : Value} (hk : g ≠ a.block) (h : Room w g) : Room (w.setCell a v) g := by
  obtain ⟨cs, r, z⟩ := h
  exact ⟨cs, r.setApart hk, z⟩
theorem Room.lt {w : World} {g : Nat} (h : Room w g) : g < w.heap.size := by
  obtain ⟨cs, r, _⟩ := h
  exact r.lt

section
variable {ops : Array Oper} {rest : List Oper} {o : Oper} {a : Act} {w : World} {Q : Exit → Act → World → Prop} {x y : Operand} {g : Nat} {c : Array Value} {N : Nat}
/-- A whole identifier is loaded. -/
theorem load24 (hc : IsId c N) (hgd : o.guard = none) (ho : o.op = .load 24 x) (hx : a.eval x = .pointer (some ⟨g, 0, none⟩)) (hg : Row w g c)
    (h : wpList Try.prog ops Q rest (a.put o.dst (.agg c)) w) : wpList Try.prog ops Q (o :: rest) a w := by
  obtain ⟨t, hg⟩ := hg
  exact wpList_load_row hgd 24 x ho g hx t c (0, 0) _ hg Try.underlying24 rfl (size24 hc.size) h
theorem load27 (hc : IsId c N) (hgd : o.guard = none) (ho : o.op = .load 27 x) (hx : a.eval x = .pointer (some ⟨g, 0, none⟩)) (hg : Row w g c)
    (h : wpList Try.prog ops Q rest (a.put o.dst (.agg c)) w) : wpList Try.prog ops Q (o :: rest) a w := by
  obtain ⟨t, hg⟩ := hg
  exact wpList_load_row hgd 27 x ho g hx t c (0, 0) _ hg under27 rfl (size27 hc.size) h
/-- A whole identifier is stored. -/
theorem store24 (hc : IsId c N) (hgd : o.guard = none) (ho : o.op = .store 24 x y) (hx : a.eval x = .pointer (some ⟨g, 0, none⟩)) (hy : a.eval y = .agg c) (hg : Room w g)
    (h : wpList Try.prog ops Q rest (a.put o.dst undef) (w.setRow g c)) : wpList Try.prog ops Q (o :: rest) a w := by
  obtain ⟨old, ⟨t, hg⟩, hz⟩ := hg
  exact wpList_store_row hgd 24 x y ho g c hx hy t old hg (size24 hc.size) (by rw [hz, hc.size]) hc.one h
theorem store27 (hc : IsId c N) (hgd : o.guard = none) (ho : o.op = .store 27 x y) (hx : a.eval x = .pointer (some ⟨g, 0, none⟩)) (hy : a.eval y = .agg c) (hg : Room w g)
    (h : wpList Try.prog ops Q rest (a.put o.dst undef) (w.setRow g c)) : wpList Try.prog ops Q (o :: rest) a w := by
  obtain ⟨old, ⟨t, hg⟩, hz⟩ := hg
  exact wpList_store_row hgd 27 x y ho g c hx hy t old hg (size27 hc.size) (by rw [hz, hc.size]) hc.one h
end

/-- A result that is an identifier. -/
theorem res24 {fn : Func} {p : Tmp} {tmps : Array Value} {w : World} {g : Nat} {c : Array Value} {N : Nat} (hc : IsId c N) (h : fn.results = #[.cell p 24]) (hp : tmps.getD p undef = .pointer (some ⟨g, 0, none⟩)) (hr : Row w g c) :
    (results fn tmps).run Try.prog w = .ok (.agg c) w := by
  obtain ⟨t, hr⟩ := hr
  exact results_cell_row h tmps w g t c (0, 0) _ hp hr Try.underlying24 rfl (size24 hc.size)
theorem res27 {fn : Func} {p : Tmp} {tmps : Array Value} {w : World} {g : Nat} {c : Array Value} {N : Nat} (hc : IsId c N) (h : fn.results = #[.cell p 27]) (hp : tmps.getD p undef = .pointer (some ⟨g, 0, none⟩)) (hr : Row w g c) :
    (results fn tmps).run Try.prog w = .ok (.agg c) w := by
  obtain ⟨t, hr⟩ := hr
  exact results_cell_row h tmps w g t c (0, 0) _ hp hr under27 rfl (size27 hc.size)

theorem Below.setRow {B : Nat} {a w : World} (h : Below B a w) {g : Nat} (hg : B ≤ g) (cs : Array Value) : Below B a (w.setRow g cs) := below_setRow h hg cs

theorem mask_lt (p : Nat) : 2 ^ (p % 8) < 256 := by
  have : 2 ^ (p % 8) ≤ 2 ^ 7 := Nat.pow_le_pow_right (by decide) (by omega)
  omega
theorem mask_cast (p : Nat) : ((2 : Int) ^ (p % 8) % 256) = ((2 ^ (p % 8) : Nat) : Int) := by
  have h := mask_lt p
  have e : ((2 : Int) ^ (p % 8)) = ((2 ^ (p % 8) : Nat) : Int) := by simp
  rw [e]
  generalize 2 ^ (p % 8) = m at *
  omega

theorem set_one {c : Array Value} {N p : Nat} (hc : IsId c N) (hp : p < 160) : IsId (c.setIfInBounds (19 - p / 8) (.int .u8 (bits .or .u8 (byteAt N (19 - p / 8) : Int) (2 ^ (p % 8) % 256)))) (wb N p 1) := by
  rw [mask_cast, u8_or_nat _ _ (byteAt_lt _ _) (mask_lt p)]
  exact hc.set (wb_lt hc.lt hp (by decide)) (by omega) (byteAt_wb_one N p hp) (fun j hj hne => byteAt_wb_other N p 1 j (by decide) hp hj hne)
theorem set_zero {c : Array Value} {N p : Nat} (hc : IsId c N) (hp : p < 160) : IsId (c.setIfInBounds (19 - p / 8) (.int .u8 (bits .andNot .u8 (byteAt N (19 - p / 8) : Int) (2 ^ (p % 8) % 256)))) (wb N p 0) := by
  rw [mask_cast, u8_andNot_nat _ _ (byteAt_lt _ _) (mask_lt p)]
  exact hc.set (wb_lt hc.lt hp (by decide)) (by omega) (byteAt_wb_zero N p hp) (fun j hj hne => byteAt_wb_other N p 0 j (by decide) hp hj hne)

/-! ### The small functions -/
theorem zzBitOf_any {c : Array Value} {N : Nat} (hc : IsId c N) (p : Nat) (w : World) (hp : p < 160) :
    Calls Try.prog 18 #[.agg c, .int .i64 p] w fun e w' => e = .returned (.int .u8 (N / 2 ^ p % 2 : Nat)) ∧ Below w.heap.size w w' := by
  have hg := hc.get (k := 19 - p / 8) (by omega)
  have hb := byteAt_lt N (19 - p / 8)
  rw [← bit_and N p hp]
  go_enter Try.func18, Try.ntmps18
  go_wp2
  go_ret
  exact ⟨rfl, (Below.refl _ _).alloc (Nat.le_refl _) _⟩

theorem makeSpace_any (b : Int) (w : World) :
    Calls Try.prog 12 #[.int .i64 b] w fun e w' => e = .returned (.agg #[.int .i64 b]) ∧ Below w.heap.size w w' := by
  go_enter Try.func12, Try.ntmps12
  go_wp2
  simp [bodyPost, results, Try.results12, go_sem]
  exact (Below.refl _ _).alloc (Nat.le_refl _) _

theorem zzWithBit_one {c : Array Value} {N : Nat} (hc : IsId c N) (p : Nat) (w : World) (hp : p < 160) :
    Calls Try.prog 11 #[.agg c, .int .i64 p, .int .u8 1] w fun e w' => ∃ d, IsId d (wb N p 1) ∧ e = .returned (.agg d) ∧ Below w.heap.size w w' := by
  have hg := hc.get (k := 19 - p / 8) (by omega)
  have hb := byteAt_lt N (19 - p / 8)
  have hd := set_one hc hp
  generalize hs : c.setIfInBounds (19 - p / 8) (.int .u8 (bits .or .u8 (byteAt N (19 - p / 8) : Int) (2 ^ (p % 8) % 256))) = d at hd
  go_enter Try.func11, Try.ntmps11
  go_upto_region 6 with fail
  go_wp2_with (first
    | (refine load24 hd rfl rfl rfl ?hg ?_; case hg => exact Row.old (Row.new rfl))
    | (refine store24 hd rfl rfl rfl rfl ?hg ?_; case hg => (refine Row.room (Row.new ?_) rfl; simp; done)))

  refine bodyPost_ret (v := .agg d) ?_ rfl ⟨d, hd, rfl, ?_⟩
  · refine res24 hd Try.results11 rfl ?_
    exact Row.stored (Row.new (by simp))
  · exact Below.setRow (((Below.refl _ _).alloc (by simp) _).alloc (by simp) _) (by simp) _

theorem zzWithBit_zero {c : Array Value} {N : Nat} (hc : IsId c N) (p : Nat) (w : World) (hp : p < 160) :
    Calls Try.prog 11 #[.agg c, .int .i64 p, .int .u8 0] w fun e w' => ∃ d, IsId d (wb N p 0) ∧ e = .returned (.agg d) ∧ Below w.heap.size w w' := by
  have hg := hc.get (k := 19 - p / 8) (by omega)
  have hb := byteAt_lt N (19 - p / 8)
  have hd := set_zero hc hp
  generalize hs : c.setIfInBounds (19 - p / 8) (.int .u8 (bits .andNot .u8 (byteAt N (19 - p / 8) : Int) (2 ^ (p % 8) % 256))) = d at hd
  go_enter Try.func11, Try.ntmps11
  go_upto_region 6 with fail
  go_wp2_with (first
    | (refine load24 hd rfl rfl rfl ?hg ?_; case hg => exact Row.old (Row.new rfl))
    | (refine store24 hd rfl rfl rfl rfl ?hg ?_; case hg => (refine Row.room (Row.new ?_) rfl; simp; done)))
  refine bodyPost_ret (v := .agg d) ?_ rfl ⟨d, hd, rfl, ?_⟩
  · refine res24 hd Try.results11 rfl ?_
    exact Row.stored (Row.new (by simp))
  · exact Below.setRow (((Below.refl _ _).alloc (by simp) _).alloc (by simp) _) (by simp) _
end Go.Proofs.Qxb6002790a
