/-
  An argument of the type [20]byte, opened: it is an identifier.
-/
import Derived.Test.Qxb6002790aIds
import Derived.ProofKit
import Derived.OpenShut
namespace Go.Proofs.Qxb6002790a
open Go.ChangeShapes Go.WideShapes Go.ChangeAt Go.RowKit Plain

theorem cells24 : Try.prog.cellsOf 24 = 20 := by kernel_rfl
theorem cells5 : Try.prog.cellsOf 5 = 1 := by kernel_rfl

theorem isId_of {c : Array Value} (hz : c.size = 20) (h : ∀ i, i < 20 → ∃ n : Nat, n < 256 ∧ c[i]? = some (.int .u8 n)) : ∃ N, IsId c N := by
  have h' : ∀ i : Nat, ∃ n : Nat, i < 20 → n < 256 ∧ c[i]? = some (.int .u8 n) := fun i => by
    by_cases hi : i < 20
    · obtain ⟨n, hn⟩ := h i hi
      exact ⟨n, fun _ => hn⟩
    · exact ⟨0, fun k => absurd k hi⟩
  obtain ⟨f, hf⟩ : ∃ f : Nat → Nat, ∀ i, i < 20 → f i < 256 ∧ c[i]? = some (.int .u8 (f i)) := ⟨fun i => (h' i).choose, fun i => (h' i).choose_spec⟩
  obtain ⟨N, hN, hb⟩ := of_bytes f fun i hi => (hf i hi).1
  refine ⟨N, hN, ?_⟩
  apply Array.ext_getElem?
  intro i
  by_cases hi : i < 20
  · rw [cells_get N hi, hb i hi, (hf i hi).2]
  · rw [Array.getElem?_eq_none (xs := cells N) (by rw [cells_size]; omega), Array.getElem?_eq_none (by omega)]

theorem open_id {H : Type} {enc : TypeId × Value → H} {w : World} {base : Nat} {spare : Nat → Bool} {held : Bool} {r : Reach} {b0 : Nat} {v : Value} {d : DataW H} {ps : List MemPlace}
    (hval : Value.okWide Try.prog w r b0 24 v) (hd : DataW.Trod enc Try.prog w base spare held 24 v d ps) : ∃ c N, v = .agg c ∧ IsId c N := by
  simp only [Value.okWide, Try.underlying24] at hval
  obtain ⟨c, rfl, hz, _⟩ := hval
  rw [cells24] at hz
  obtain ⟨fuel, hf⟩ := hd
  obtain ⟨xs, m, rfl, hx, hl, hxl, hg⟩ := DataW.trod_array Try.underlying24 hf
  simp only [Value.cells, cells5, Nat.mul_one] at hg
  obtain ⟨N, hN⟩ := isId_of hz fun i hi => by
    have k := hg i hi
    rw [List.getElem?_eq_getElem (by omega)] at k
    obtain ⟨n, h1, _, h3⟩ := DataW.trod_int Try.underlying5 k
    obtain ⟨b1, b2⟩ := bounds_u8 h3
    have hi' : i < c.toList.length := by simp; omega
    have e : c[i]? = some (.int .u8 n) := by
      have e1 : ((c.toList.drop i).take 1)[0]? = some (.int .u8 n) := by rw [h1]; rfl
      rw [List.getElem?_take, if_pos (by omega), List.getElem?_drop] at e1
      simpa using e1
    refine ⟨n.toNat, by omega, ?_⟩
    rw [e, Int.toNat_of_nonneg b1]
  exact ⟨c, N, rfl, hN⟩
end Go.Proofs.Qxb6002790a
