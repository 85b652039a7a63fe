/-
  The reader's memory; bytes.Reader's Read; fill, need: walked.
-/
import Derived.Test.Qxb6616277aFmtSmall
import Derived.Deep.QuietTactic
import Derived.BigQuiet
import Derived.LaidEql
namespace Go.Proofs.Qxb6616277aFmt
open Go.RowKit Go.Deep

/-- A jsonwalk.Reader's cells. -/
def rdr (src buf pos en base err : Value) (tail : Nat → Value) : Nat → Value
  | 0 => src
  | 1 => buf
  | 2 => pos
  | 3 => en
  | 4 => base
  | 5 => err
  | k + 6 => tail k
/-- A bytes.Reader's cells. -/
def brd (sl i pr : Value) : Nat → Value
  | 0 => sl
  | 1 => i
  | _ + 2 => pr

/-- Nothing but draws. -/
structure Still (w W : World) : Prop where
  os : W.os = w.os
  tape : W.tape = w.tape
  output : W.output = w.output
  heap : W.heap = w.heap

/-- Only blocks of p turned; blocks may have been made. -/
structure Chg (p : Nat → Prop) (w W : World) : Prop where
  os : W.os = w.os
  tape : W.tape = w.tape
  output : W.output = w.output
  size : w.heap.size ≤ W.heap.size
  block : ∀ b, b < w.heap.size → ¬ p b → W.heap[b]? = w.heap[b]?
theorem Chg.refl (p : Nat → Prop) (w : World) : Chg p w w := ⟨rfl, rfl, rfl, Nat.le_refl _, fun _ _ _ => rfl⟩
theorem Chg.drewN {p : Nat → Prop} {w W : World} (h : Chg p w W) (m : Nat) : Chg p w (W.drewN m) := ⟨h.os, h.tape, h.output, h.size, h.block⟩
theorem Chg.drew {p : Nat → Prop} {w W : World} (h : Chg p w W) : Chg p w W.drew := ⟨h.os, h.tape, h.output, h.size, h.block⟩
theorem Chg.still {p : Nat → Prop} {w W W' : World} (h : Chg p w W) (hs : Still W W') : Chg p w W' := ⟨hs.os.trans h.os, hs.tape.trans h.tape, hs.output.trans h.output, by rw [hs.heap]; exact h.size, fun b hb hp => by rw [hs.heap]; exact h.block b hb hp⟩
theorem Chg.grown {p : Nat → Prop} {w W W' : World} {row : Option Nat} (h : Chg p w W) (hg : W.grownBy W' row) (hr : ∀ k, row = some k → p k ∨ w.heap.size ≤ k) : Chg p w W' :=
  ⟨hg.os.trans h.os, hg.tape.trans h.tape, hg.output.trans h.output, Nat.le_trans h.size hg.size, fun b hb hp =>
    (hg.block b (Nat.lt_of_lt_of_le hb h.size) (fun e => by rcases hr b e.symm with h1 | h1; exact hp h1; omega)).trans (h.block b hb hp)⟩
theorem grownBy_setCell (w : World) (b k : Nat) (v : Value) : w.grownBy (w.setCell ⟨b, k, none⟩ v) (some b) := ⟨rfl, rfl, rfl, by simp [World.setCell], fun k _ hk => Below.heap_setCell _ _ _ _ (by intro e; exact hk (by rw [e]))⟩
theorem Chg.setCell {p : Nat → Prop} {w W : World} (h : Chg p w W) {b k : Nat} (hb : p b ∨ w.heap.size ≤ b) (v : Value) : Chg p w (W.setCell ⟨b, k, none⟩ v) :=
  h.grown (grownBy_setCell W b k v) (fun j e => by have := Option.some.inj e; subst this; exact hb)
theorem Chg.setCells {p : Nat → Prop} {w W : World} (h : Chg p w W) {b k : Nat} (hb : p b ∨ w.heap.size ≤ b) (vs : List Value) : Chg p w (W.setCells b k vs) :=
  h.grown (setCells_grown b vs k W) (fun j e => by have := Option.some.inj e; subst this; exact hb)
theorem Chg.alloc {p : Nat → Prop} {w W : World} (h : Chg p w W) (o : Obj) : Chg p w (W.alloc o) :=
  ⟨h.os, h.tape, h.output, by simp; exact Nat.le_trans h.size (Nat.le_succ _), fun b hb hp => (blk_alloc_lt _ _ _ (Nat.lt_of_lt_of_le hb h.size)).trans (h.block b hb hp)⟩
theorem Chg.trans {p : Nat → Prop} {w W W' : World} (h : Chg p w W) (h' : Chg p W W') : Chg p w W' :=
  ⟨h'.os.trans h.os, h'.tape.trans h.tape, h'.output.trans h.output, Nat.le_trans h.size h'.size, fun b hb hp => (h'.block b (Nat.lt_of_lt_of_le hb h.size) hp).trans (h.block b hb hp)⟩
theorem Chg.below {p : Nat → Prop} {w0 w W : World} {N : Nat} (h : Chg p w W) (hb : Below N w0 w) (hp : ∀ b, b < N → ¬ p b) (hN : N ≤ w.heap.size) : Below N w0 W :=
  hb.trans ⟨h.os, h.tape, h.output, h.size, fun b hb => h.block b (Nat.lt_of_lt_of_le hb hN) (hp b hb)⟩
theorem Chg.row {p : Nat → Prop} {w W : World} {b t n : Nat} {f : Nat → Value} (h : Chg p w W) (hr : w.rowIs b t n f) (hb : ¬ p b) : W.rowIs b t n f := hr.of_block (h.block b hr.lt hb)

theorem rowIs_ne {w : World} {b b' t t' n n' : Nat} {f f' : Nat → Value} (h : w.rowIs b t n f) (h' : w.rowIs b' t' n' f') (ht : t ≠ t') : b ≠ b' := by
  rintro rfl
  obtain ⟨c1, e1, _⟩ := h
  obtain ⟨c2, e2, _⟩ := h'
  rw [e1] at e2
  injection e2 with e2
  injection e2 with _ e3
  exact ht e3

theorem Tryf.cmp104 : (Tryf.prog.info? 104).map (·.comparable) = some true := by kernel_rfl
theorem Tryf.some106 : (Tryf.prog.info? 106).isSome = true := by kernel_rfl
theorem eof_same (x : Addr) (W : World) : (binOp .eql 28 (.iface 104 (.pointer (some x))) (.iface 104 (.pointer (some x)))).run Tryf.prog W = .ok (.bool true) W := by
  obtain ⟨i, hi, hc⟩ := Option.map_eq_some_iff.1 Tryf.cmp104
  obtain ⟨j, hj⟩ := Option.isSome_iff_exists.1 Tryf.some106
  exact run_eql_iface_ptr_same (P := Tryf.prog) W x Tryf.underlying28 Tryf.underlying104 hi hc hj

set_option maxHeartbeats 400000 in
set_option maxRecDepth 100000 in
theorem readErr_any (R : Nat) (x : Addr) (err : Value) (w : World) (hg : w.cell? ⟨0, 0, none⟩ = some (.iface 104 (.pointer (some x)))) (h5 : w.cell? ⟨R, 5, none⟩ = some err) (he : err = .nilIface ∨ err = .iface 104 (.pointer (some x))) :
    Calls Tryf.prog 55 #[.pointer (some ⟨R, 0, none⟩)] w fun e w' => e = .returned .nilIface ∧ Still w w' := by
  rcases he with rfl | rfl
  · have he1 : ∀ W, (binOp .eql 28 .nilIface (.iface 104 (.pointer (some x)))).run Tryf.prog W = .ok (.bool false) W := fun W => by kernel_rfl
    go_enter Tryf.func55, Tryf.ntmps55
    go_wp2_with fail
    go_quiet (fail)
    go_wp2
    go_ret
    exact ⟨rfl, rfl, rfl, rfl, rfl⟩
  · have he1 := eof_same x
    go_enter Tryf.func55, Tryf.ntmps55
    go_wp2_with fail
    go_quiet (fail)
    go_wp2
    go_ret
    exact ⟨rfl, rfl, rfl, rfl, rfl⟩

/-- At the document's end: no byte, io.EOF. -/
theorem read_end (S d n i : Nat) (a : Option Addr) (l c : Nat) (x : Addr) (w : World) (hi : n ≤ i) (hg : w.cell? ⟨0, 0, none⟩ = some (.iface 104 (.pointer (some x))))
    (h0 : w.cell? ⟨S, 0, none⟩ = some (.slice (some ⟨d, 0, none⟩) n n)) (h1 : w.cell? ⟨S, 1, none⟩ = some (.int .i64 i)) :
    Calls Tryf.prog 83 #[.pointer (some ⟨S, 0, none⟩), .slice a l c] w fun e w' => e = .returned (.tuple #[.int .i64 0, .iface 104 (.pointer (some x))]) ∧ Still w w' := by
  go_enter Tryf.func83, Tryf.ntmps83
  go_wp2_with fail
  go_quiet (fail)
  go_wp2
  go_quiet (fail)
  go_wp2
  go_ret2
  exact ⟨rfl, rfl, rfl, rfl, rfl⟩

/-- What Read leaves: k bytes of D, from i on, in row B from o on. -/
structure ReadPost (w : World) (S d n i B o L k : Nat) (D : Nat → Int) (f : Nat → Value) (W : World) : Prop where
  rS : W.rowIs S 58 3 (brd (.slice (some ⟨d, 0, none⟩) n n) (.int .i64 (i + k : Nat)) (.int .i64 (-1)))
  rB : W.rowIs B 5 L (fun j => if o ≤ j ∧ j < o + k then .int .u8 (D (i + (j - o))) else f j)
  chg : Chg (fun b => b = S ∨ b = B) w W

set_option maxHeartbeats 400000 in
set_option maxRecDepth 100000 in
theorem read_some (S d n i B o l L k : Nat) (D : Nat → Int) (pr : Value) (f : Nat → Value) (w : World) (hi : i < n) (hn : n ≤ 1048577) (hk : k = min (n - i) l) (hfit : o + l ≤ L)
    (hS : w.rowIs S 58 3 (brd (.slice (some ⟨d, 0, none⟩) n n) (.int .i64 i) pr)) (hD : w.rowIs d 5 n (fun j => .int .u8 (D j))) (hB : w.rowIs B 5 L f) :
    Calls Tryf.prog 83 #[.pointer (some ⟨S, 0, none⟩), .slice (some ⟨B, o, none⟩) l l] w fun e w' => e = .returned (.tuple #[.int .i64 k, .nilIface]) ∧ ReadPost w S d n i B o L k D f w' := by
  have hk1 : k ≤ n - i := by omega
  have HK := hid hk
  clear hk
  have h0 : w.cell? ⟨S, 0, none⟩ = some (.slice (some ⟨d, 0, none⟩) n n) := hS.cell (by omega)
  have h1 : w.cell? ⟨S, 1, none⟩ = some (.int .i64 i) := hS.cell (by omega)
  have h2 : w.cell? ⟨S, 2, none⟩ = some pr := hS.cell (by omega)
  have f2 := hS.frozen 2
  have hne : S ≠ d := rowIs_ne hS hD (by decide)
  have hneB : S ≠ B := rowIs_ne hS hB (by decide)
  go_enter Tryf.func83, Tryf.ntmps83
  go_wp2_with fail
  go_quiet (fail)
  go_wp2_with fail
  have hS2 : ((w.drewN nq).setCell ⟨S, 2, none⟩ (.int .i64 (-1))).rowIs S 58 3 (brd (.slice (some ⟨d, 0, none⟩) n n) (.int .i64 i) (.int .i64 (-1))) :=
    ((show (w.drewN nq).rowIs S 58 3 _ from hS).set 2 _).congr (fun j hj => by rcases j with _ | _ | _ | j <;> first | rfl | (exfalso; omega))
  have hD2 : ((w.drewN nq).setCell ⟨S, 2, none⟩ (.int .i64 (-1))).rowIs d 5 n (fun j => .int .u8 (D j)) := (show (w.drewN nq).rowIs d 5 n _ from hD).setOther (fun e => hne e.symm) _
  have hB2 : ((w.drewN nq).setCell ⟨S, 2, none⟩ (.int .i64 (-1))).rowIs B 5 L f := (show (w.drewN nq).rowIs B 5 L _ from hB).setOther (fun e => hneB e.symm) _
  have HX := hid (((Chg.refl (fun b => b = S ∨ b = B) w).drewN nq).setCell (b := S) (k := 2) (.inl (.inl rfl)) (.int .i64 (-1)))
  clear hS hD hB h0 h1 h2 f2
  generalize (w.drewN nq).setCell ⟨S, 2, none⟩ (.int .i64 (-1)) = wx at hS2 hD2 hB2 HX ⊢
  have h0 : wx.cell? ⟨S, 0, none⟩ = some (.slice (some ⟨d, 0, none⟩) n n) := hS2.cell (by omega)
  have h1 : wx.cell? ⟨S, 1, none⟩ = some (.int .i64 i) := hS2.cell (by omega)
  have hcp : ∀ ty, (Builtin.copy_ #[22, 22] ty #[.slice (some ⟨B, o, none⟩) l l, .slice (some ⟨d, i, none⟩) (n - i) (n - i)]).run Tryf.prog wx.drew = .ok (.int .i64 k) (wx.drew.setCells B o (bytesAt D i k)) := fun ty =>
    run_copy_bytes _ ty B o l l ⟨d, i, none⟩ (n - i) (n - i) k i L 5 D f HK.out hB2 (by have := HK.out; omega) (fun j hj => by
      rw [Go.WideShapes.add_plain]
      exact hD2.cell (i := i + j) (by omega))
  have hS3 : (wx.drew.setCells B o (bytesAt D i k)).rowIs S 58 3 (brd (.slice (some ⟨d, 0, none⟩) n n) (.int .i64 i) (.int .i64 (-1))) := hS2.of_block ((setCells_grown B (bytesAt D i k) o wx.drew).block _ hS2.lt (fun e => hneB (Option.some.inj e)))
  have hB3 := hid (copied_row (D := D) (q := i) (o := o) (k := k) (show wx.drew.rowIs B 5 L f from hB2))
  have HX3 := hid (HX.out.drew.setCells (b := B) (k := o) (.inl (.inr rfl)) (bytesAt D i k))
  go_region
  clear h0 h1 hcp hS2 hD2 hB2 HX
  generalize wx.drew.setCells B o (bytesAt D i k) = wy at hS3 hB3 HX3 ⊢
  have h1 : wy.cell? ⟨S, 1, none⟩ = some (.int .i64 i) := hS3.cell (by omega)
  have f1 := hS3.frozen 1
  have HF := hid (show ReadPost w S d n i B o L k D f (wy.setCell ⟨S, 1, none⟩ (.int .i64 (i + k : Nat))) from
    ⟨(hS3.set 1 _).congr (fun j hj => by rcases j with _ | _ | _ | j <;> first | rfl | (exfalso; omega)), hB3.out.setOther (fun e => hneB e.symm) _, HX3.out.setCell (.inl (.inl rfl)) _⟩)
  clear hS3 hB3 HX3
  go_wp2
  go_ret2
  exact ⟨rfl, by simpa using HF.out⟩

end Go.Proofs.Qxb6616277aFmt
