/-
  A parameter of type [4]bool, [4]int: opened and shut.
-/
import Derived.Test.Qxb6616254aRows
import Derived.WalkKit
import Derived.ProofKit
import Derived.OpenShut
import Derived.Laws.IdiomArrays
namespace Go.Proofs.Qxb6616254a
open Go.ChangeShapes Go.WideShapes Go.ChangeAt Go.RowKit

theorem Try.cells23 : Try.prog.cellsOf 23 = 4 := by kernel_rfl
theorem Try.cells24 : Try.prog.cellsOf 24 = 4 := by kernel_rfl
theorem Try.cells3 : Try.prog.cellsOf 3 = 1 := by kernel_rfl
theorem Try.cells4 : Try.prog.cellsOf 4 = 1 := by kernel_rfl

theorem list4 {α : Type} (l : List α) (h : (⟨l⟩ : Array α).size = 4) : ∃ a b c d, l = [a, b, c, d] := by
  match l, h with
  | [a, b, c, d], _ => exact ⟨a, b, c, d, rfl⟩

theorem open4b {H : Type} {enc : TypeId × Value → H} {W : World} {base : Nat} {v : Value} {d : DataW H} {p : List MemPlace} {sp : Nat → Bool} {held : Bool} (hv : Value.okWide Try.prog W .any base 23 v) (h : DataW.Trod enc Try.prog W 0 sp held 23 v d p) :
    ∃ b0 b1 b2 b3, v = .agg #[.bool b0, .bool b1, .bool b2, .bool b3] ∧ d = .agg [.lit (.bool b0), .lit (.bool b1), .lit (.bool b2), .lit (.bool b3)] ∧ p = [] := by
  obtain ⟨cs, rfl, hsz, _⟩ : ∃ cs, v = .agg cs ∧ cs.size = Try.prog.cellsOf 23 ∧ Row.okWide Try.prog W .any base 23 cs := by
    simpa [Value.okWide, Try.underlying23] using hv
  rw [Try.cells23] at hsz
  obtain ⟨l⟩ := cs
  obtain ⟨c0, c1, c2, c3, rfl⟩ := list4 l hsz
  obtain ⟨fuel, hf⟩ := h
  obtain ⟨y0, y1, y2, y3, m, hx, hy0, hy1, hy2, hy3⟩ := trod_array4 Try.underlying23 Try.cells4 hf
  obtain ⟨x0, e0, rfl⟩ := DataW.trod_bool Try.underlying4 hy0
  obtain ⟨x1, e1, rfl⟩ := DataW.trod_bool Try.underlying4 hy1
  obtain ⟨x2, e2, rfl⟩ := DataW.trod_bool Try.underlying4 hy2
  obtain ⟨x3, e3, rfl⟩ := DataW.trod_bool Try.underlying4 hy3
  simp at e0 e1 e2 e3
  subst e0 e1 e2 e3
  simp only [Prod.mk.injEq] at hx
  obtain ⟨rfl, rfl⟩ := hx
  exact ⟨_, _, _, _, rfl, rfl, rfl⟩

theorem open4i {H : Type} {enc : TypeId × Value → H} {W : World} {base : Nat} {v : Value} {d : DataW H} {p : List MemPlace} {sp : Nat → Bool} {held : Bool} (hv : Value.okWide Try.prog W .any base 24 v) (h : DataW.Trod enc Try.prog W 0 sp held 24 v d p) :
    ∃ b0 b1 b2 b3, v = .agg #[.int .i64 b0, .int .i64 b1, .int .i64 b2, .int .i64 b3] ∧ d = .agg [.lit (.int .i64 b0), .lit (.int .i64 b1), .lit (.int .i64 b2), .lit (.int .i64 b3)] ∧ p = [] ∧
      (Lit.int .i64 b0).wf = true ∧ (Lit.int .i64 b1).wf = true ∧ (Lit.int .i64 b2).wf = true ∧ (Lit.int .i64 b3).wf = true := by
  obtain ⟨cs, rfl, hsz, _⟩ : ∃ cs, v = .agg cs ∧ cs.size = Try.prog.cellsOf 24 ∧ Row.okWide Try.prog W .any base 24 cs := by
    simpa [Value.okWide, Try.underlying24] using hv
  rw [Try.cells24] at hsz
  obtain ⟨l⟩ := cs
  obtain ⟨c0, c1, c2, c3, rfl⟩ := list4 l hsz
  obtain ⟨fuel, hf⟩ := h
  obtain ⟨y0, y1, y2, y3, m, hx, hy0, hy1, hy2, hy3⟩ := trod_array4 Try.underlying24 Try.cells3 hf
  obtain ⟨x0, e0, rfl, w0⟩ := DataW.trod_int Try.underlying3 hy0
  obtain ⟨x1, e1, rfl, w1⟩ := DataW.trod_int Try.underlying3 hy1
  obtain ⟨x2, e2, rfl, w2⟩ := DataW.trod_int Try.underlying3 hy2
  obtain ⟨x3, e3, rfl, w3⟩ := DataW.trod_int Try.underlying3 hy3
  simp at e0 e1 e2 e3
  subst e0 e1 e2 e3
  simp only [Prod.mk.injEq] at hx
  obtain ⟨rfl, rfl⟩ := hx
  exact ⟨_, _, _, _, rfl, rfl, rfl, w0, w1, w2, w3⟩

theorem shut4b {H : Type} {enc : TypeId × Value → H} {W : World} {sp : Nat → Bool} {held : Bool} {base : Nat} (b0 b1 b2 b3 : Bool) :
    DataW.Trod enc Try.prog W base sp held 23 (.agg #[.bool b0, .bool b1, .bool b2, .bool b3]) (.agg [.lit (.bool b0), .lit (.bool b1), .lit (.bool b2), .lit (.bool b3)]) [] :=
  ⟨2, by simp [DataW.trod, Value.cells, Try.underlying23, Try.underlying4, Try.cells23, Try.cells4, show List.range 4 = [0, 1, 2, 3] from rfl]⟩

theorem shut4i {H : Type} {enc : TypeId × Value → H} {W : World} {sp : Nat → Bool} {held : Bool} {base : Nat} {b0 b1 b2 b3 : Int} (w0 : (Lit.int .i64 b0).wf = true) (w1 : (Lit.int .i64 b1).wf = true) (w2 : (Lit.int .i64 b2).wf = true) (w3 : (Lit.int .i64 b3).wf = true) :
    DataW.Trod enc Try.prog W base sp held 24 (.agg #[.int .i64 b0, .int .i64 b1, .int .i64 b2, .int .i64 b3]) (.agg [.lit (.int .i64 b0), .lit (.int .i64 b1), .lit (.int .i64 b2), .lit (.int .i64 b3)]) [] :=
  ⟨2, by simp [DataW.trod, Value.cells, Try.underlying24, Try.underlying3, Try.cells24, Try.cells3, w0, w1, w2, w3, show List.range 4 = [0, 1, 2, 3] from rfl]⟩

end Go.Proofs.Qxb6616254a
