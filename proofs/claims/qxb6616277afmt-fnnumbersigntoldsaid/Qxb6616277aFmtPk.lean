/-
  The reader, made; skipSpace and peek at a document that does not open with white space; where the reader stands.
-/
import Derived.Test.Qxb6616277aFmtNeed
namespace Go.Proofs.Qxb6616277aFmt
open Go.RowKit Go.Deep

/-- A new reader's last cells. -/
def tail0 : Nat → Value
  | 0 => .int .i64 0
  | 1 => .int .i64 0
  | 2 => .int .i64 0
  | _ + 3 => .slice none 0 0

set_option maxHeartbeats 400000 in
set_option maxRecDepth 100000 in
theorem readerOf_any (w0 : World) (d n : Nat) (D : Nat → Int) (x : Addr) (w : World) (hbel : Below w0.heap.size w0 w) (hd : w0.heap.size ≤ d) (hn : n ≤ 1048577) (hD : w.rowIs d 5 n (fun j => .int .u8 (D j))) :
    Calls Tryf.prog 8 #[.slice (some ⟨d, 0, none⟩) n n] w fun e w' => ∃ R S, e = .returned (.pointer (some ⟨R, 0, none⟩)) ∧ Rdr w0 R S d n D x none 0 0 0 0 .nilIface tail0 w' := by
  have HF := hid (show Rdr w0 (w.heap.size + 1) w.heap.size d n D x none 0 0 0 0 .nilIface tail0 ((w.alloc (.cells #[.slice (some ⟨d, 0, none⟩) n n, .int .i64 0, .int .i64 (-1)] 58)).alloc (.cells #[srcV w.heap.size, .slice none 0 0, .int .i64 0, .int .i64 0, .int .i64 0, .nilIface, .int .i64 0, .int .i64 0, .int .i64 0, .slice none 0 0, .slice none 0 0, .slice none 0 0, .slice none 0 0] 54)) from by
    have hz := hbel.size
    have hl := hD.lt
    have r1 := World.rowIs_alloc w #[.slice (some ⟨d, 0, none⟩) n n, .int .i64 0, .int .i64 (-1)] 58 (brd (.slice (some ⟨d, 0, none⟩) n n) (.int .i64 (0 + 0 : Nat)) (.int .i64 (-1))) (fun i hi => by rcases i with _ | _ | _ | i <;> first | rfl | (simp at hi; omega))
    have r2 := World.rowIs_alloc (w.alloc (.cells #[.slice (some ⟨d, 0, none⟩) n n, .int .i64 0, .int .i64 (-1)] 58)) #[srcV w.heap.size, .slice none 0 0, .int .i64 0, .int .i64 0, .int .i64 0, .nilIface, .int .i64 0, .int .i64 0, .int .i64 0, .slice none 0 0, .slice none 0 0, .slice none 0 0, .slice none 0 0] 54
      (rdr (srcV w.heap.size) (.slice none 0 0) (.int .i64 (0 : Nat)) (.int .i64 (0 : Nat)) (.int .i64 (0 : Nat)) .nilIface tail0) (fun i hi => by rcases i with _ | _ | _ | _ | _ | _ | _ | _ | _ | _ | _ | _ | _ | i <;> first | rfl | (simp at hi; omega))
    have e1 : (w.alloc (.cells #[.slice (some ⟨d, 0, none⟩) n n, .int .i64 0, .int .i64 (-1)] 58)).heap.size = w.heap.size + 1 := by simp
    rw [e1] at r2
    exact ⟨(hbel.alloc hz _).alloc (by rw [e1]; omega) _, by omega, hz, hd, r2, ⟨_, r1.alloc _⟩, (hD.alloc _).alloc _, .inl ⟨rfl, rfl⟩, Nat.le_refl _, Nat.le_refl _, Nat.zero_le _, hn, by omega, .inl rfl, fun _ _ => ⟨rfl, rfl⟩, ⟨0, rfl⟩⟩)
  clear hbel hD
  go_enter Tryf.func8, Tryf.ntmps8
  go_wp2
  go_ret
  exact ⟨_, _, rfl, HF.out⟩

set_option maxHeartbeats 800000 in
set_option maxRecDepth 100000 in
/-- skipSpace, at a new reader, where the document opens with no white space. -/
theorem skip_any (w0 : World) (R S d n : Nat) (D : Nat → Int) (x : Addr) (tail : Nat → Value) (w : World) (h : Rdr w0 R S d n D x none 0 0 0 0 .nilIface tail w) (hg : w0.cell? ⟨0, 0, none⟩ = some (eofV x)) (hin : 0 < n) (hb : 33 ≤ D 0 ∧ D 0 ≤ 255) :
    Calls Tryf.prog 43 #[.pointer (some ⟨R, 0, none⟩)] w fun e w' => e = .returned (.bool true) ∧ Ready w0 R S d n D x 0 w' := by
  have h2 : w.cell? ⟨R, 2, none⟩ = some (.int .i64 0) := h.rR.cell (by omega)
  have h3 : w.cell? ⟨R, 3, none⟩ = some (.int .i64 0) := h.rR.cell (by omega)
  have HF := fun m : Nat => hid (fill_any w0 R S d n D x none 0 0 0 .nilIface tail (w.drewN m) (h.keep ((Chg.refl _ _).drewN m)) hg)
  have hd : decide (0 + 0 < n) = true := decide_eq_true (by omega)
  have hd' : decide (0 < n) = true := decide_eq_true hin
  have q1 : (D 0 == 32) = false := by simp; omega
  have q2 : (D 0 == 9) = false := by simp; omega
  have q3 : (D 0 == 10) = false := by simp; omega
  have q4 : (D 0 == 13) = false := by simp; omega
  clear h
  go_enter Tryf.func43, Tryf.ntmps43
  go_wp2_with fail
  go_loopg [2] 1 (fun k _ wr => (k = 1 ∧ wr = w) ∨ (k = 0 ∧ Hid (Ready w0 R S d n D x 0 wr)))
  case atStart => exact .inl ⟨rfl, rfl⟩
  case round =>
    rcases hrel with ⟨rfl, rfl⟩ | ⟨rfl, HR⟩
    · go_wp2_with fail
      go_loopw [2] (fun _ w2 => w2 = wr) (fun _ _ => 0)
      case atStart => rfl
      case round =>
        subst hrel
        go_wp2_with fail
        go_quiet (fail)
        go_wp2_with fail
        refine (HF _).out.mono ?_
        rintro e w' ⟨rfl, hP⟩
        have HP : Hid (Ready w0 R S d n D x 0 w') := hid (hP.ready hin)
        clear hP
        go_wp2
        go_roundg 0
        case measure => omega
        case rel => exact .inr ⟨rfl, HP⟩
    · clear HF h2 h3
      go_wp2_with fail
      go_loopw [2] (fun _ w2 => w2 = wr) (fun _ _ => 0)
      case atStart => rfl
      case round =>
        subst hrel
        obtain ⟨a, L', pos', en, base, err, tl, hlt, hP, hX⟩ := HR.out
        have h3 : wr.cell? ⟨R, 3, none⟩ = some (.int .i64 en) := hX.rR.cell (by omega)
        have b3 := hX.le2
        have b4 := hX.le5
        have h2' : wr.cell? ⟨R, 2, none⟩ = some (.int .i64 pos') := hX.rR.cell (by omega)
        obtain ⟨B, L, pos, lk⟩ := HR.out.look
        obtain rfl : pos = pos' := by
          have := lk.h2.symm.trans h2'
          simp at this
          omega
        have h1 := lk.h1
        have h2 := lk.h2
        have hbb := lk.hb
        have b1 := lk.lt
        have b2 := lk.le
        have hlt' : decide ((pos : Int) < en) = true := decide_eq_true (by omega)
        clear lk hX h2'
        go_wp2_with fail
        go_quiet (fail)
        go_wp2_with fail
        go_quiet (fail)
        go_wp2
        go_ret
        exact ⟨rfl, HR.out.keep ((Chg.refl _ _).drewN _)⟩

set_option maxHeartbeats 800000 in
set_option maxRecDepth 100000 in
theorem peek_any (w0 : World) (R S d n : Nat) (D : Nat → Int) (x : Addr) (tail : Nat → Value) (w : World) (h : Rdr w0 R S d n D x none 0 0 0 0 .nilIface tail w) (hg : w0.cell? ⟨0, 0, none⟩ = some (eofV x)) (hin : 0 < n) (hb : 33 ≤ D 0 ∧ D 0 ≤ 255) :
    Calls Tryf.prog 24 #[.pointer (some ⟨R, 0, none⟩)] w fun e w' => (∃ c, e = .returned (.tuple #[.int .u8 c, .nilIface])) ∧ Ready w0 R S d n D x 0 w' := by
  have HF := hid (skip_any w0 R S d n D x tail w h hg hin hb)
  clear h
  go_enter Tryf.func24, Tryf.ntmps24
  go_wp2_with fail
  go_enter Tryf.func29, Tryf.ntmps29
  go_wp2_with fail
  refine HF.out.mono ?_
  rintro e w' ⟨rfl, hR⟩
  have HR := hid hR
  obtain ⟨B, L, pos, lk⟩ := hR.look
  have h1 := lk.h1
  have h2 := lk.h2
  have hbb := lk.hb
  have b1 := lk.lt
  have b2 := lk.le
  clear lk hR HF
  go_wp2_with fail
  go_quiet (fail)
  go_wp2_with fail
  go_ret2
  exact ⟨⟨_, rfl⟩, HR.out.keep ((Chg.refl _ _).drewN _)⟩

set_option maxRecDepth 100000 in
theorem base_any (w : World) (R : Nat) (v : Value) (h : w.cell? ⟨R, 4, none⟩ = some v) : Calls Tryf.prog 11 #[.pointer (some ⟨R, 0, none⟩)] w fun e w' => e = .returned v ∧ w' = w := by
  go_enter Tryf.func11, Tryf.ntmps11
  go_wp2
  go_ret
  exact ⟨rfl, rfl⟩
set_option maxRecDepth 100000 in
theorem pos_any (w : World) (R : Nat) (v : Value) (h : w.cell? ⟨R, 2, none⟩ = some v) : Calls Tryf.prog 12 #[.pointer (some ⟨R, 0, none⟩)] w fun e w' => e = .returned v ∧ w' = w := by
  go_enter Tryf.func12, Tryf.ntmps12
  go_wp2
  go_ret
  exact ⟨rfl, rfl⟩

end Go.Proofs.Qxb6616277aFmt
