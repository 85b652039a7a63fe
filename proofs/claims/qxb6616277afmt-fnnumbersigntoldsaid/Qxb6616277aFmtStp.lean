/-
  The reader's memory under steps: blocks made, a byte passed.
-/
import Derived.Test.Qxb6616277aFmtRdr
namespace Go.Proofs.Qxb6616277aFmt
open Go.RowKit Go.Deep

variable {w0 w W : World} {R S d n : Nat} {D : Nat → Int} {x : Addr} {a : Option Addr} {L pos en base P : Nat} {err : Value} {tail : Nat → Value}

/-- Blocks made, none turned. -/
theorem Rdr.keep (h : Rdr w0 R S d n D x a L pos en base err tail w) (hc : Chg (fun _ => False) w W) : Rdr w0 R S d n D x a L pos en base err tail W := by
  obtain ⟨pr, hS⟩ := h.rS
  refine ⟨hc.below h.bel (fun _ _ e => e) h.bel.size, h.geR, h.geS, h.ged, hc.row h.rR id, ⟨pr, hc.row hS id⟩, hc.row h.rD id, ?_, h.le1, h.le2, h.le3, h.le4, h.le5, h.er, h.ini, h.don⟩
  rcases h.buf with h1 | ⟨B, f, h1, h2, h3, h4, h5⟩
  · exact .inl h1
  · exact .inr ⟨B, f, h1, h2, h3, hc.row h4 id, h5⟩
theorem At.keep (h : At w0 R S d n D x P w) (hc : Chg (fun _ => False) w W) : At w0 R S d n D x P W := by
  obtain ⟨a, L, pos, en, base, err, tail, e, h⟩ := h
  exact ⟨a, L, pos, en, base, err, tail, e, h.keep hc⟩
theorem Ready.keep (h : Ready w0 R S d n D x P w) (hc : Chg (fun _ => False) w W) : Ready w0 R S d n D x P W := by
  obtain ⟨a, L, pos, en, base, err, tail, e1, e, h⟩ := h
  exact ⟨a, L, pos, en, base, err, tail, e1, e, h.keep hc⟩
theorem Ready.at (h : Ready w0 R S d n D x P w) : At w0 R S d n D x P w := by
  obtain ⟨a, L, pos, en, base, err, tail, e1, e, h⟩ := h
  exact ⟨a, L, pos, en, base, err, tail, e, h⟩
theorem Ready.fp (h : Ready w0 R S d n D x P w) : Fp w0 R S d n D x P w := ⟨h.at, fun _ => h⟩
theorem Ready.lt (h : Ready w0 R S d n D x P w) : P < n := by
  obtain ⟨a, L, pos, en, base, err, tail, e1, e, h⟩ := h
  have := h.le3
  omega
theorem At.le (h : At w0 R S d n D x P w) : P ≤ n := by
  obtain ⟨a, L, pos, en, base, err, tail, e, h⟩ := h
  have := h.le3
  have := h.le1
  omega
theorem Chg.of_still {p : Nat → Prop} (h : Still w W) : Chg p w W := (Chg.refl p w).still h

theorem Still.cell (h : Still w W) (a : Addr) : W.cell? a = w.cell? a := by simp only [World.cell?, h.heap]

/-- One byte passed. -/
theorem Rdr.step (h : Rdr w0 R S d n D x a L pos en base err tail w) (hlt : pos < en) : Rdr w0 R S d n D x a L (pos + 1) en base err tail (w.setCell ⟨R, 2, none⟩ (.int .i64 ((pos : Int) + 1))) := by
  obtain ⟨pr, hS⟩ := h.rS
  have hRS : S ≠ R := rowIs_ne hS h.rR (by decide)
  have hRd : d ≠ R := rowIs_ne h.rD h.rR (by decide)
  refine ⟨h.bel.setCell h.geR _, h.geR, h.geS, h.ged, (h.rR.set 2 _).congr (fun j hj => by rcases j with _ | _ | _ | _ | _ | _ | j <;> first | rfl | simp [rdr]), ⟨_, hS.setOther hRS _⟩, h.rD.setOther hRd _, ?_, by omega, h.le2, h.le3, h.le4, h.le5, h.er, h.ini, h.don⟩
  rcases h.buf with h1 | ⟨B, f, h1, h2, h3, h4, h5⟩
  · exact .inl h1
  · exact .inr ⟨B, f, h1, h2, h3, h4.setOther (rowIs_ne h4 h.rR (by decide)) _, fun j hj hj2 => h5 j (by omega) hj2⟩

/-- What a walk reads at a reader that holds the next byte. -/
structure Look (w0 : World) (R S d n : Nat) (D : Nat → Int) (x : Addr) (P : Nat) (w : World) (B L pos : Nat) : Prop where
  h1 : w.cell? ⟨R, 1, none⟩ = some (.slice (some ⟨B, 0, none⟩) L L)
  h2 : w.cell? ⟨R, 2, none⟩ = some (.int .i64 pos)
  hb : w.cell? ⟨B, pos, none⟩ = some (.int .u8 (D P))
  f2 : w.frozen? ⟨R, 2, none⟩ = false
  lt : pos < L
  le : L ≤ 131072
  step : At w0 R S d n D x (P + 1) (w.setCell ⟨R, 2, none⟩ (.int .i64 ((pos : Int) + 1)))
  off : ∃ base : Nat, base ≤ 1048577 ∧ w.cell? ⟨R, 4, none⟩ = some (.int .i64 base)
theorem Ready.look (h : Ready w0 R S d n D x P w) : ∃ B L pos, Look w0 R S d n D x P w B L pos := by
  obtain ⟨a, L, pos, en, base, err, tail, e1, e, h⟩ := h
  rcases h.buf with ⟨_, h1⟩ | ⟨B, f, rfl, h2, h3, h4, h5⟩
  · exfalso
    have := h.le2
    omega
  · have := h.le2
    have := h.le3
    have := h.le4
    refine ⟨B, L, pos, h.rR.cell (by omega), h.rR.cell (by omega), ?_, h.rR.frozen 2, by omega, h.le5, ⟨_, _, _, _, _, _, _, by omega, h.step e1⟩, ⟨base, by omega, h.rR.cell (by omega)⟩⟩
    rw [h4.cell (by omega), h5 pos (Nat.le_refl _) e1, e]

end Go.Proofs.Qxb6616277aFmt
