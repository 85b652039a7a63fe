/-
  ZZnumber and zzRunNumber, walked.
-/
import Derived.Test.Qxb6616277aFmtNum
import Derived.Test.Qxb6616277aFmtPk
namespace Go.Proofs.Qxb6616277aFmt
open Go.RowKit Go.Deep Go.Extern.Stop Go.Stop Go.Extern

set_option maxHeartbeats 400000 in
set_option maxRecDepth 100000 in
theorem number_ok (F : Interp) (hS : Short F) (w0 : World) (R S d n : Nat) (D : Nat → Int) (x : Addr) (w : World) (hF : F.answers w0.tape) (h : Ready w0 R S d n D x 0 w) (hg : w0.cell? ⟨0, 0, none⟩ = some (eofV x)) (hb : ∀ i, i < n → 0 ≤ D i ∧ D i ≤ 255) (hok : (number D n).1 = true) :
    Calls Tryf.prog 25 #[.pointer (some ⟨R, 0, none⟩)] w fun e w' => e = .returned .nilIface ∧ At w0 R S d n D x (number D n).2 w' := by
  have HF := hid (number_walk F hS w0 R S d n D x _ w hF h hg hb rfl)
  clear h hb
  go_enter Tryf.func25, Tryf.ntmps25
  go_wp2_with fail
  refine HF.out.mono ?_
  rintro e w' ⟨v, rfl, hA⟩
  rw [if_pos hok]
  have HA := hid hA
  clear hA
  go_wp2
  go_ret
  exact ⟨rfl, HA.out⟩
set_option maxHeartbeats 400000 in
set_option maxRecDepth 100000 in
theorem number_bad (F : Interp) (hS : Short F) (w0 : World) (R S d n : Nat) (D : Nat → Int) (x : Addr) (w : World) (hF : F.answers w0.tape) (h : Ready w0 R S d n D x 0 w) (hg : w0.cell? ⟨0, 0, none⟩ = some (eofV x)) (hb : ∀ i, i < n → 0 ≤ D i ∧ D i ≤ 255) (hok : (number D n).1 = false) :
    Calls Tryf.prog 25 #[.pointer (some ⟨R, 0, none⟩)] w fun e w' => (∃ v, e = .returned (.iface 76 v)) ∧ At w0 R S d n D x (number D n).2 w' := by
  have HF := hid (number_walk F hS w0 R S d n D x _ w hF h hg hb rfl)
  clear h hb
  go_enter Tryf.func25, Tryf.ntmps25
  go_wp2_with fail
  refine HF.out.mono ?_
  rintro e w' ⟨v, rfl, hA⟩
  rw [if_neg (by rw [hok]; exact Bool.false_ne_true)]
  have HA := hid hA
  clear hA
  go_wp2
  go_ret
  exact ⟨⟨v, rfl⟩, HA.out⟩

set_option maxHeartbeats 800000 in
set_option maxRecDepth 100000 in
theorem run_ok (F : Interp) (hS : Short F) (w0 : World) (d n : Nat) (D : Nat → Int) (x : Addr) (w : World) (hF : F.answers w0.tape) (hg : w0.cell? ⟨0, 0, none⟩ = some (eofV x)) (hbel : Below w0.heap.size w0 w) (hd : w0.heap.size ≤ d) (hn : n ≤ 1048577) (hD : w.rowIs d 5 n (fun j => .int .u8 (D j)))
    (hin : 0 < n) (hb : ∀ i, i < n → 0 ≤ D i ∧ D i ≤ 255) (h33 : 33 ≤ D 0) (hok : (number D n).1 = true) :
    Calls Tryf.prog 14 #[.slice (some ⟨d, 0, none⟩) n n] w fun e w' => e = .returned (.tuple #[.bool false, .int .i64 ((number D n).2 : Nat), .bool true]) ∧ Below w0.heap.size w0 w' := by
  have HF := hid (readerOf_any w0 d n D x w hbel hd hn hD)
  have Hb := hid hb
  have eni : ∀ W, (binOp .neq 28 .nilIface .nilIface).run Tryf.prog W = .ok (.bool false) W := fun _ => by kernel_rfl
  have env : ∀ v W, (binOp .neq 28 (.iface 76 v) .nilIface).run Tryf.prog W = .ok (.bool true) W := fun _ _ => by kernel_rfl
  have epn : ∀ (R : Nat) W, (binOp .eql 25 (.pointer (some ⟨R, 0, none⟩)) (.pointer none)).run Tryf.prog W = .ok (.bool false) W := fun _ _ => by kernel_rfl
  clear hbel hD hb
  go_enter Tryf.func14, Tryf.ntmps14
  go_wp2_with fail
  refine HF.out.mono ?_
  rintro e w1 ⟨R, S, rfl, hR⟩
  have HP := hid (peek_any w0 R S d n D x tail0 w1 hR hg hin ⟨h33, (Hb.out 0 hin).2⟩)
  clear hR HF
  go_wp2_with fail
  refine HP.out.mono ?_
  rintro e w2 ⟨⟨c, rfl⟩, hR2⟩
  have HN := hid (number_ok F hS w0 R S d n D x w2 hF hR2 hg Hb.out hok)
  clear HP hR2
  go_wp2_with fail
  refine HN.out.mono ?_
  rintro e w3 ⟨rfl, hA⟩
  obtain ⟨q, hq⟩ : ∃ q, (number D n).2 = q := ⟨_, rfl⟩
  rw [hq] at hA
  have HQ := hid hq
  clear hq
  obtain ⟨a, L, pos, en, base, err, tail, hP, hX⟩ := hA
  have h2 : w3.cell? ⟨R, 2, none⟩ = some (.int .i64 pos) := hX.rR.cell (by omega)
  have h4 : w3.cell? ⟨R, 4, none⟩ = some (.int .i64 base) := hX.rR.cell (by omega)
  have b1 := hX.le1
  have b2 := hX.le3
  have b3 := hX.le4
  have HB := hid hX.bel
  have hsum : (base : Int) + pos = (q : Nat) := by omega
  clear hX HN
  go_wp2_with fail
  go_quiet (first | (go_at_call 11; refine Calls.quiet_of_same (base_any _ R (.int .i64 base) ?_); simp [*]) | (go_at_call 12; refine Calls.quiet_of_same (pos_any _ R (.int .i64 pos) ?_); simp [*]))
  go_wp2
  go_ret3
  exact ⟨by rw [HQ.out]; rfl, HB.out.os, HB.out.tape, HB.out.output, HB.out.size, HB.out.block⟩

set_option maxHeartbeats 800000 in
set_option maxRecDepth 100000 in
theorem run_bad (F : Interp) (hS : Short F) (w0 : World) (d n : Nat) (D : Nat → Int) (x : Addr) (w : World) (hF : F.answers w0.tape) (hg : w0.cell? ⟨0, 0, none⟩ = some (eofV x)) (hbel : Below w0.heap.size w0 w) (hd : w0.heap.size ≤ d) (hn : n ≤ 1048577) (hD : w.rowIs d 5 n (fun j => .int .u8 (D j)))
    (hin : 0 < n) (hb : ∀ i, i < n → 0 ≤ D i ∧ D i ≤ 255) (h33 : 33 ≤ D 0) (hok : (number D n).1 = false) :
    Calls Tryf.prog 14 #[.slice (some ⟨d, 0, none⟩) n n] w fun e w' => e = .returned (.tuple #[.bool true, .int .i64 ((number D n).2 : Nat), .bool true]) ∧ Below w0.heap.size w0 w' := by
  have HF := hid (readerOf_any w0 d n D x w hbel hd hn hD)
  have Hb := hid hb
  have eni : ∀ W, (binOp .neq 28 .nilIface .nilIface).run Tryf.prog W = .ok (.bool false) W := fun _ => by kernel_rfl
  have env : ∀ v W, (binOp .neq 28 (.iface 76 v) .nilIface).run Tryf.prog W = .ok (.bool true) W := fun _ _ => by kernel_rfl
  have epn : ∀ (R : Nat) W, (binOp .eql 25 (.pointer (some ⟨R, 0, none⟩)) (.pointer none)).run Tryf.prog W = .ok (.bool false) W := fun _ _ => by kernel_rfl
  clear hbel hD hb
  go_enter Tryf.func14, Tryf.ntmps14
  go_wp2_with fail
  refine HF.out.mono ?_
  rintro e w1 ⟨R, S, rfl, hR⟩
  have HP := hid (peek_any w0 R S d n D x tail0 w1 hR hg hin ⟨h33, (Hb.out 0 hin).2⟩)
  clear hR HF
  go_wp2_with fail
  refine HP.out.mono ?_
  rintro e w2 ⟨⟨c, rfl⟩, hR2⟩
  have HN := hid (number_bad F hS w0 R S d n D x w2 hF hR2 hg Hb.out hok)
  clear HP hR2
  go_wp2_with fail
  refine HN.out.mono ?_
  rintro e w3 ⟨⟨v, rfl⟩, hA⟩
  obtain ⟨q, hq⟩ : ∃ q, (number D n).2 = q := ⟨_, rfl⟩
  rw [hq] at hA
  have HQ := hid hq
  clear hq
  obtain ⟨a, L, pos, en, base, err, tail, hP, hX⟩ := hA
  have h2 : w3.cell? ⟨R, 2, none⟩ = some (.int .i64 pos) := hX.rR.cell (by omega)
  have h4 : w3.cell? ⟨R, 4, none⟩ = some (.int .i64 base) := hX.rR.cell (by omega)
  have b1 := hX.le1
  have b2 := hX.le3
  have b3 := hX.le4
  have HB := hid hX.bel
  have hsum : (base : Int) + pos = (q : Nat) := by omega
  clear hX HN
  go_wp2_with fail
  go_quiet (first | (go_at_call 11; refine Calls.quiet_of_same (base_any _ R (.int .i64 base) ?_); simp [*]) | (go_at_call 12; refine Calls.quiet_of_same (pos_any _ R (.int .i64 pos) ?_); simp [*]))
  go_wp2
  go_ret3
  exact ⟨by rw [HQ.out]; rfl, HB.out.os, HB.out.tape, HB.out.output, HB.out.size, HB.out.block⟩

/-- zzRunNumber: whether number failed, and where it stands. -/
theorem run_any (F : Interp) (hS : Short F) (w0 : World) (d n : Nat) (D : Nat → Int) (x : Addr) (w : World) (hF : F.answers w0.tape) (hg : w0.cell? ⟨0, 0, none⟩ = some (eofV x)) (hbel : Below w0.heap.size w0 w) (hd : w0.heap.size ≤ d) (hn : n ≤ 1048577) (hD : w.rowIs d 5 n (fun j => .int .u8 (D j)))
    (hin : 0 < n) (hb : ∀ i, i < n → 0 ≤ D i ∧ D i ≤ 255) (h33 : 33 ≤ D 0) :
    Calls Tryf.prog 14 #[.slice (some ⟨d, 0, none⟩) n n] w fun e w' => e = .returned (.tuple #[.bool (!(number D n).1), .int .i64 ((number D n).2 : Nat), .bool true]) ∧ Below w0.heap.size w0 w' := by
  cases hok : (number D n).1 with
  | true => exact run_ok F hS w0 d n D x w hF hg hbel hd hn hD hin hb h33 hok
  | false => exact run_bad F hS w0 d n D x w hF hg hbel hd hn hD hin hb h33 hok

end Go.Proofs.Qxb6616277aFmt
