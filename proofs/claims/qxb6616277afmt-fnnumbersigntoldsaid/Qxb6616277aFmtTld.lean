/-
  What both rows share: the text that is told is short; io.EOF as it is laid; one world that fits.
-/
import Derived.Test.Qxb6616277aFmtRun
import Derived.ProofKit
import Derived.OpenShut
import Derived.ShutString
import Derived.ChangeOld
import Derived.Stop.JoinedAt
import Derived.Stop.Texts
import Derived.Stop.ErrReads
import Derived.Stop.JoinedTold
import Derived.Stop.LaidErr
namespace Go.Proofs.Qxb6616277aFmt
open Go.ChangeShapes Go.WideShapes Go.ChangeAt Go.RowKit Go.Kit
open Go.Extern.Stop Go.Stop Go.Extern

theorem Tryf.own : ownKnob Tryf.prog.godebug = none := by kernel_rfl
theorem Tryf.laidOut : laidOutB Tryf.pinned.checked.prog = true := by kernel_rfl
theorem Tryf.stops : Tryf.pinned.checked.prog.stops = ["fmt.Sprintf", "fmt.errorf"] := by kernel_rfl
theorem Tryf.stopKnobs : Tryf.pinned.checked.prog.stopKnobs = [] := by kernel_rfl
theorem Tryf.quiet (os : Os) : Stop.quiet Tryf.pinned.checked.prog os := by
  intro k hk
  rw [Tryf.stopKnobs] at hk
  cases hk
theorem Tryf.gEof : Tryf.prog.globalNamed "io.EOF" = some 0 := by kernel_rfl
theorem Tryf.gEofType : (Tryf.prog.globals[0]?).map (·.type) = some 28 := by kernel_rfl
theorem Tryf.cells106 : Tryf.prog.cellsOf 106 = 1 := by kernel_rfl
theorem Tryf.cells9 : Tryf.prog.cellsOf 9 = 1 := by kernel_rfl
/-- What 'laid' gives. -/
theorem eof_cell {W : World} (h : laidMet Tryf.prog [("io.EOF", Rows.laid_io_EOF)] W) : ∃ x : Addr, W.cell? ⟨0, 0, none⟩ = some (eofV x) := by
  obtain ⟨a0, s0, hv0, hc0, hs0, hz0⟩ := laid_sentinel h Tryf.gEof Tryf.gEofType Tryf.underlying28 (fun u h => typeName_ptr_named (nm := "errors.errorString") (tp := 104) (by kernel_rfl) (by kernel_rfl) (by decide) u (h.trans (by decide))) Tryf.underlying104 Tryf.underlying106 rfl rfl Tryf.underlying9 Tryf.cells106 Tryf.cells9
  exact ⟨a0, by simpa using World.var?_cell Tryf.gEof hv0 0⟩

abbrev eofS : ByteArray := { data := #[69, 79, 70] }
/-- So many blocks has the settled world. -/
def low (P : Program) : Nat := (World.holding P default ⟨#[], #[], []⟩).heap.size
/-- The settled world with one block more, an errors.errorString; io.EOF holds a pointer to it. -/
def laidWorld (P : Program) (os : Os) : World :=
  let w0 := World.holding P os ⟨#[.cells #[.string eofS] 106], #[], []⟩
  { w0 with heap := w0.heap.modify 0 fun
      | .cells _ t frozen => .cells #[.iface 104 (.pointer (some ⟨low P, 0, none⟩))] t frozen
      | o => o }
theorem laid_met (os : Os) (args : Array Value) : laidMet Tryf.prog [("io.EOF", Rows.laid_io_EOF)] ((laidWorld Tryf.prog os).forCall (fun _ _ => 0) ⟨#[], args, []⟩).memory :=
  laidMet_of_run (ps := [.cell 0 0, .cell (low Tryf.prog) 0]) 8 (by kernel_rfl) (by kernel_rfl) (by kernel_rfl)

theorem text_short : ∀ u : Fin 256, ((FmtText.text "fmt.Sprintf" (readingX (u.val : Int))).map (fun l => decide (l.length ≤ 64))) = some true := by decide +kernel

theorem told_short (F : Stop.Interp) : Short F.told := fun c h0 h1 => by
  have h := text_short ⟨c.toNat, by omega⟩
  rw [show (((⟨c.toNat, by omega⟩ : Fin 256).val : Nat) : Int) = c by simp; omega] at h
  cases ht : FmtText.text "fmt.Sprintf" (readingX c) with
  | none => rw [ht] at h; cases h
  | some t =>
    rw [ht] at h
    have hl : t.length ≤ 64 := by simpa using h
    have hs := told_string F ht (by omega)
    have hz : (FmtStop.textOf (F.told "fmt.Sprintf" (readingX c) 0)).data.toList = t := by rw [textOf_list, hs]
    have : (FmtStop.textOf (F.told "fmt.Sprintf" (readingX c) 0)).size = t.length := by rw [← hz]; rfl
    omega

/-- A []byte that came in: nothing, or a row of bytes. -/
theorem bytes_open {H : Type} {enc : TypeId × Value → H} {W : World} {a0 : Option Addr} {len0 cap0 : Nat} {d : DataW H} {p : List MemPlace} {sp : Nat → Bool} {base : Nat} {own : Bool} (h : DataW.Trod enc Tryf.prog W base sp own 22 (.slice a0 len0 cap0) d p) :
    ∃ zs : List Int, (len0 = 0 ∨ ∃ b off, a0 = some ⟨b, off, none⟩ ∧ ∀ j, j < len0 → W.cell? ⟨b, off + j, none⟩ = some (.int .u8 (zs.getD j 0))) ∧ ∀ j, j < len0 → 0 ≤ zs.getD j 0 ∧ zs.getD j 0 ≤ 255 := by
  obtain ⟨fuel, hf⟩ := h
  rcases open_ints Tryf.underlying22 Tryf.underlying5 (by kernel_rfl) hf with ⟨hcs, _⟩ | ⟨x, l, c, zs, hcs, _, hl, hm, hz, _, hcell, hwz⟩
  · simp [Value.cells] at hcs
    obtain ⟨rfl, rfl, rfl⟩ := hcs
    exact ⟨[], .inl rfl, fun j hj => by omega⟩
  · simp [Value.cells] at hcs
    obtain ⟨rfl, rfl, rfl⟩ := hcs
    have hz' : len0 ≤ zs.length := by
      split at hz <;> omega
    refine ⟨zs, ?_, fun j hj => ?_⟩
    · by_cases h0 : len0 = 0
      · exact .inl h0
      · obtain ⟨b, off, rfl, hc2⟩ := ints_at hcell (by omega)
        exact .inr ⟨b, off, rfl, fun k hk => hc2 k (by omega)⟩
    · have hj2 : j < zs.length := by omega
      have hm : zs.getD j 0 ∈ zs := by
        rw [List.getD_eq_getElem?_getD, List.getElem?_eq_getElem hj2]
        exact List.getElem_mem hj2
      exact bounds_u8 (hwz _ hm)

end Go.Proofs.Qxb6616277aFmt
