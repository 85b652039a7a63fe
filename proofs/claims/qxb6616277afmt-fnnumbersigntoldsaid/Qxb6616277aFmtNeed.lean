/-
  fill and need, whole; endErr.
-/
import Derived.Test.Qxb6616277aFmtFill
import Derived.Test.Qxb6616277aFmtFillB
import Derived.Test.Qxb6616277aFmtFillZ
namespace Go.Proofs.Qxb6616277aFmt
open Go.RowKit Go.Deep

theorem fill_any (w0 : World) (R S d n : Nat) (D : Nat → Int) (x : Addr) (a : Option Addr) (L pos base : Nat) (err : Value) (tail : Nat → Value) (w : World) (h : Rdr w0 R S d n D x a L pos pos base err tail w) (hg : w0.cell? ⟨0, 0, none⟩ = some (eofV x)) :
    Calls Tryf.prog 46 #[.pointer (some ⟨R, 0, none⟩)] w fun e w' => e = .returned (.bool (decide (base + pos < n))) ∧ Fp w0 R S d n D x (base + pos) w' := by
  rcases h.er with rfl | ⟨rfl, he⟩
  · by_cases hp : pos = 0
    · subst hp
      obtain ⟨rfl, rfl⟩ := h.ini rfl rfl
      exact fill_zero w0 R S d n D x base tail w h hg
    · have hb : ∃ B, a = some ⟨B, 0, none⟩ := by
        rcases h.buf with ⟨_, h1⟩ | ⟨B, _, h1, _⟩
        · have := h.le2
          omega
        · exact ⟨B, h1⟩
      obtain ⟨B, rfl⟩ := hb
      by_cases hL : L < 65536
      · exact fill_pos w0 R S d n D x B L pos base tail w h (by omega) hL hg
      · exact fill_big w0 R S d n D x B L pos base tail w h (by omega) (by omega) hg
  · refine (fill_err R x w (h.rR.cell (by omega))).mono ?_
    rintro e w' ⟨rfl, rfl⟩
    refine ⟨by rw [decide_eq_false (by omega)], ⟨_, _, _, _, _, _, _, rfl, h⟩, fun hlt => ?_⟩
    omega

set_option maxHeartbeats 400000 in
set_option maxRecDepth 100000 in
/-- The byte is there. -/
theorem need_held (w0 : World) (R S d n : Nat) (D : Nat → Int) (x : Addr) (P : Nat) (w : World) (h : Ready w0 R S d n D x P w) :
    Calls Tryf.prog 48 #[.pointer (some ⟨R, 0, none⟩), .int .i64 1] w fun e w' => e = .returned (.bool true) ∧ Still w w' := by
  obtain ⟨a, L, pos, en, base, err, tail, hlt, hP, h⟩ := h
  have h2 : w.cell? ⟨R, 2, none⟩ = some (.int .i64 pos) := h.rR.cell (by omega)
  have h3 : w.cell? ⟨R, 3, none⟩ = some (.int .i64 en) := h.rR.cell (by omega)
  have b2 := h.le2
  have b3 := h.le5
  have hd : decide ((en : Int) - pos < 1) = false := decide_eq_false (by omega)
  clear h
  go_enter Tryf.func48, Tryf.ntmps48
  go_wp2_with fail
  go_loopw [4] (fun _ wr => wr = w) (fun _ _ => 0)
  case atStart => rfl
  case round =>
    subst hrel
    go_wp2_with fail
    go_quiet (fail)
    go_wp2
    go_ret
    exact ⟨rfl, rfl, rfl, rfl, rfl⟩

set_option maxHeartbeats 400000 in
set_option maxRecDepth 100000 in
/-- The buffer is empty. -/
theorem need_empty (w0 : World) (R S d n : Nat) (D : Nat → Int) (x : Addr) (a : Option Addr) (L pos base : Nat) (err : Value) (tail : Nat → Value) (w : World) (h : Rdr w0 R S d n D x a L pos pos base err tail w) (hg : w0.cell? ⟨0, 0, none⟩ = some (eofV x)) :
    Calls Tryf.prog 48 #[.pointer (some ⟨R, 0, none⟩), .int .i64 1] w fun e w' => e = .returned (.bool (decide (base + pos < n))) ∧ Fp w0 R S d n D x (base + pos) w' := by
  have H := hid h
  clear h
  have h2 : w.cell? ⟨R, 2, none⟩ = some (.int .i64 pos) := H.out.rR.cell (by omega)
  have h3 : w.cell? ⟨R, 3, none⟩ = some (.int .i64 pos) := H.out.rR.cell (by omega)
  have b2 := H.out.le2
  have b3 := H.out.le5
  have HF := fun m : Nat => hid (fill_any w0 R S d n D x a L pos base err tail (w.drewN m) (H.out.keep ((Chg.refl _ _).drewN m)) hg)
  clear H
  by_cases hin : base + pos < n
  · have hd : decide (base + pos < n) = true := decide_eq_true hin
    go_enter Tryf.func48, Tryf.ntmps48
    go_wp2_with fail
    go_loopg [4] 1 (fun k _ wr => (k = 1 ∧ wr = w) ∨ (k = 0 ∧ Ready w0 R S d n D x (base + pos) wr))
    case atStart => exact .inl ⟨rfl, rfl⟩
    case round =>
      rcases hrel with ⟨rfl, rfl⟩ | ⟨rfl, hr⟩
      · go_wp2_with fail
        go_quiet (fail)
        go_wp2_with fail
        refine (HF _).out.mono ?_
        rintro e w' ⟨rfl, hP⟩
        have hP' := hid hP
        clear hP
        go_wp2
        go_roundg 0
        case measure => omega
        case rel => exact .inr ⟨rfl, hP'.out.ready hin⟩
      · have hr' := hid hr
        obtain ⟨a, L, pos', en, base', err, tail, hlt, hP, h⟩ := hr
        have h2 : wr.cell? ⟨R, 2, none⟩ = some (.int .i64 pos') := h.rR.cell (by omega)
        have h3 : wr.cell? ⟨R, 3, none⟩ = some (.int .i64 en) := h.rR.cell (by omega)
        have b2 := h.le2
        have b3 := h.le5
        have hd1 : decide ((en : Int) - pos' < 1) = false := decide_eq_false (by omega)
        clear h
        go_wp2_with fail
        go_quiet (fail)
        go_wp2
        go_ret
        exact ⟨by rw [hd]; rfl, (hr'.out.keep ((Chg.refl _ _).drewN _)).fp⟩
  · have hd : decide (base + pos < n) = false := decide_eq_false hin
    go_enter Tryf.func48, Tryf.ntmps48
    go_wp2_with fail
    go_loopw [4] (fun _ wr => wr = w) (fun _ _ => 0)
    case atStart => rfl
    case round =>
      subst hrel
      go_wp2_with fail
      go_quiet (fail)
      go_wp2_with fail
      refine (HF _).out.mono ?_
      rintro e w' ⟨rfl, hP⟩
      have hP' := hid hP
      clear hP
      go_wp2
      go_ret
      exact ⟨by rw [hd]; rfl, hP'.out⟩

/-- need, at 1: is a byte there? -/
theorem need_any (w0 : World) (R S d n : Nat) (D : Nat → Int) (x : Addr) (P : Nat) (w : World) (h : At w0 R S d n D x P w) (hg : w0.cell? ⟨0, 0, none⟩ = some (eofV x)) :
    Calls Tryf.prog 48 #[.pointer (some ⟨R, 0, none⟩), .int .i64 1] w fun e w' => e = .returned (.bool (decide (P < n))) ∧ Fp w0 R S d n D x P w' := by
  obtain ⟨a, L, pos, en, base, err, tail, rfl, h⟩ := h
  by_cases hlt : pos < en
  · have hr : Ready w0 R S d n D x (base + pos) w := ⟨a, L, pos, en, base, err, tail, hlt, rfl, h⟩
    refine (need_held w0 R S d n D x _ w hr).mono ?_
    rintro e w' ⟨rfl, hs⟩
    exact ⟨by rw [decide_eq_true hr.lt], (hr.keep (Chg.of_still hs)).fp⟩
  · have := h.le1
    obtain rfl : pos = en := by omega
    exact need_empty w0 R S d n D x a L pos base err tail w h hg
theorem need_yes (w0 : World) (R S d n : Nat) (D : Nat → Int) (x : Addr) (P : Nat) (w : World) (h : At w0 R S d n D x P w) (hg : w0.cell? ⟨0, 0, none⟩ = some (eofV x)) (hin : P < n) :
    Calls Tryf.prog 48 #[.pointer (some ⟨R, 0, none⟩), .int .i64 1] w fun e w' => e = .returned (.bool true) ∧ Ready w0 R S d n D x P w' := by
  refine (need_any w0 R S d n D x P w h hg).mono ?_
  rintro e w' ⟨rfl, hP⟩
  exact ⟨by rw [decide_eq_true hin], hP.ready hin⟩
theorem need_no (w0 : World) (R S d n : Nat) (D : Nat → Int) (x : Addr) (P : Nat) (w : World) (h : At w0 R S d n D x P w) (hg : w0.cell? ⟨0, 0, none⟩ = some (eofV x)) (hin : ¬ P < n) :
    Calls Tryf.prog 48 #[.pointer (some ⟨R, 0, none⟩), .int .i64 1] w fun e w' => e = .returned (.bool false) ∧ At w0 R S d n D x P w' := by
  refine (need_any w0 R S d n D x P w h hg).mono ?_
  rintro e w' ⟨rfl, hP⟩
  exact ⟨by rw [decide_eq_false hin], hP.here⟩

set_option maxHeartbeats 400000 in
set_option maxRecDepth 100000 in
/-- endErr, at a source that has not failed: an error of its own. -/
theorem endErr_any (w0 : World) (R S d n : Nat) (D : Nat → Int) (x : Addr) (P : Nat) (w : World) (h : At w0 R S d n D x P w) (hg : w0.cell? ⟨0, 0, none⟩ = some (eofV x)) :
    Calls Tryf.prog 44 #[.pointer (some ⟨R, 0, none⟩)] w fun e w' => (∃ v, e = .returned (.iface 76 v)) ∧ At w0 R S d n D x P w' := by
  have hA := hid h
  obtain ⟨a, L, pos, en, base, err, tail, rfl, h⟩ := h
  obtain ⟨q, hq⟩ := h.don
  have hg' : w.cell? ⟨0, 0, none⟩ = some (eofV x) := (h.bel.cell (World.block_lt_of_cell? w0 _ hg)).trans hg
  have H6 : w.cell? ⟨R, 6, none⟩ = some (.int .i64 q) := (h.rR.cell (by omega)).trans (by rw [← hq]; rfl)
  have HE := hid (readErr_any R x err w hg' (h.rR.cell (by omega)) (by rcases h.er with h1 | ⟨h1, _⟩; exact .inl h1; exact .inr h1))
  have eni : ∀ W, (binOp .neq 28 .nilIface .nilIface).run Tryf.prog W = .ok (.bool false) W := fun _ => by kernel_rfl
  clear h hq hg hg'
  go_enter Tryf.func44, Tryf.ntmps44
  go_wp2_with fail
  refine HE.out.mono ?_
  rintro e w' ⟨rfl, hs⟩
  have h6 : w'.cell? ⟨R, 6, none⟩ = some (.int .i64 q) := (hs.cell _).trans H6
  have HS := hid hs
  clear H6 hs HE
  go_wp2
  go_ret
  exact ⟨⟨_, rfl⟩, hA.out.keep ((Chg.of_still HS.out).alloc _)⟩

end Go.Proofs.Qxb6616277aFmt
