/-
  The laws' parameters ([]uint8, []string, []uint32), opened for the walks.
-/
import Derived.Test.Qxb6616265aSmall
import Derived.ProofKit
import Derived.OpenShut
import Derived.SliceStrings
namespace Go.Proofs.Qxb6616265a
open Go.ChangeShapes Go.WideShapes Go.ChangeAt Go.RowKit

theorem Try.cells5 : Try.prog.cellsOf 5 = 1 := by kernel_rfl
theorem Try.cells9 : Try.prog.cellsOf 9 = 1 := by kernel_rfl
theorem Try.cells29 : Try.prog.cellsOf 29 = 1 := by kernel_rfl

set_option maxRecDepth 100000 in
theorem open_u8s {H : Type} {enc : TypeId × Value → H} {W : World} {base : Nat} {v : Value} {d : DataW H} {p : List MemPlace} (hv : Value.okWide Try.prog W .any base 25 v) (h : DataW.Trod enc Try.prog W 0 (fun _ => true) true 25 v d p) :
    ∃ a len cap, ∃ c : Nat → Nat, v = .slice a len cap ∧ Row0 W a len (fun k => .int .u8 (c k : Int)) ∧ ∀ k, k < len → c k ≤ 255 := by
  obtain ⟨a, len, cap, rfl⟩ := okWide_slice Try.underlying25 hv
  obtain ⟨fuel, hf⟩ := h
  rcases open_ints Try.underlying25 Try.underlying5 Try.cells5 hf with ⟨hcs, _⟩ | ⟨x, l, c, zs, hcs, _, hl, hm, hz, _, hcell, hwz⟩
  · simp [Value.cells] at hcs
    obtain ⟨rfl, rfl, rfl⟩ := hcs
    exact ⟨none, 0, 0, fun _ => 0, rfl, .inl rfl, fun k hk => by omega⟩
  · simp [Value.cells] at hcs
    obtain ⟨rfl, rfl, rfl⟩ := hcs
    simp at hz
    have hb : ∀ k, k < len → 0 ≤ zs.getD k 0 ∧ zs.getD k 0 ≤ 255 := fun k hk => by
      have : zs.getD k 0 ∈ zs := by
        rw [List.getD_eq_getElem?_getD, List.getElem?_eq_getElem (by omega)]
        exact List.getElem_mem _
      exact bounds_u8 (hwz _ this)
    refine ⟨some x, len, cap, fun k => (zs.getD k 0).toNat, rfl, ?_, fun k hk => by have := hb k hk; dsimp only; omega⟩
    by_cases h0 : len = 0
    · exact .inl h0
    · obtain ⟨b, off, rfl, hc⟩ := ints_at hcell (by omega)
      refine .inr ⟨b, off, rfl, ?_, fun k hk => ?_⟩
      · have := World.block_lt_of_cell? W _ (hc 0 (by omega))
        exact this
      · rw [hc k (by omega)]
        have := hb k hk
        dsimp only
        rw [Int.toNat_of_nonneg this.1]

set_option maxRecDepth 100000 in
theorem open_u32s {H : Type} {enc : TypeId × Value → H} {W : World} {base : Nat} {v : Value} {d : DataW H} {p : List MemPlace} (hv : Value.okWide Try.prog W .any base 26 v) (h : DataW.Trod enc Try.prog W 0 (fun _ => true) true 26 v d p) :
    ∃ a len cap, ∃ t : Nat → Int, v = .slice a len cap ∧ Row0 W a len (fun k => .int .u32 (t k)) := by
  obtain ⟨a, len, cap, rfl⟩ := okWide_slice Try.underlying26 hv
  obtain ⟨fuel, hf⟩ := h
  rcases open_ints Try.underlying26 Try.underlying29 Try.cells29 hf with ⟨hcs, _⟩ | ⟨x, l, c, zs, hcs, _, hl, hm, hz, _, hcell, hwz⟩
  · simp [Value.cells] at hcs
    obtain ⟨rfl, rfl, rfl⟩ := hcs
    exact ⟨none, 0, 0, fun _ => 0, rfl, .inl rfl⟩
  · simp [Value.cells] at hcs
    obtain ⟨rfl, rfl, rfl⟩ := hcs
    simp at hz
    refine ⟨some x, len, cap, fun k => zs.getD k 0, rfl, ?_⟩
    by_cases h0 : len = 0
    · exact .inl h0
    · obtain ⟨b, off, rfl, hc⟩ := ints_at hcell (by omega)
      exact .inr ⟨b, off, rfl, World.block_lt_of_cell? W _ (hc 0 (by omega)), fun k hk => hc k (by omega)⟩

theorem strs_at {w : World} {a : Addr} {ss : List ByteArray} (h : ∀ i, i < ss.length → w.cell? (a.add i) = some (.string (ss.getD i ByteArray.empty))) (hp : 0 < ss.length) :
    ∃ b off, a = ⟨b, off, none⟩ ∧ ∀ j, j < ss.length → w.cell? ⟨b, off + j, none⟩ = some (.string (ss.getD j ByteArray.empty)) := by
  obtain ⟨b, off, spot⟩ := a
  have hspot : spot = none := by simpa [Addr.add] using World.cell?_spot (h 0 hp)
  subst hspot
  exact ⟨b, off, rfl, fun j hj => by rw [← Go.WideShapes.add_plain]; exact h j hj⟩

set_option maxRecDepth 100000 in
theorem open_strs {H : Type} {enc : TypeId × Value → H} {W : World} {base : Nat} {v : Value} {d : DataW H} {p : List MemPlace} (hv : Value.okWide Try.prog W .any base 22 v) (h : DataW.Trod enc Try.prog W 0 (fun _ => true) true 22 v d p) :
    ∃ a len cap, ∃ key : Nat → ByteArray, v = .slice a len cap ∧ Row0 W a len (fun k => .string (key k)) ∧ ∀ k, k < len → (key k).size ≤ maxLen := by
  obtain ⟨a, len, cap, rfl⟩ := okWide_slice Try.underlying22 hv
  obtain ⟨fuel, hf⟩ := h
  rcases open_strings Try.underlying22 Try.underlying9 Try.cells9 hf with ⟨hcs, _⟩ | ⟨x, l, c, ss, hcs, _, hl, hm, hz, _, hcell, hws⟩
  · simp [Value.cells] at hcs
    obtain ⟨rfl, rfl, rfl⟩ := hcs
    exact ⟨none, 0, 0, fun _ => ByteArray.empty, rfl, .inl rfl, fun k hk => by omega⟩
  · simp [Value.cells] at hcs
    obtain ⟨rfl, rfl, rfl⟩ := hcs
    simp at hz
    refine ⟨some x, len, cap, fun k => ss.getD k ByteArray.empty, rfl, ?_, fun k hk => ?_⟩
    · by_cases h0 : len = 0
      · exact .inl h0
      · obtain ⟨b, off, rfl, hc⟩ := strs_at hcell (by omega)
        exact .inr ⟨b, off, rfl, World.block_lt_of_cell? W _ (hc 0 (by omega)), fun k hk => hc k (by omega)⟩
    · have : ss.getD k ByteArray.empty ∈ ss := by
        rw [List.getD_eq_getElem?_getD, List.getElem?_eq_getElem (by omega)]
        exact List.getElem_mem _
      exact hws _ this

end Go.Proofs.Qxb6616265a
