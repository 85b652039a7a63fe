/-
  The reader's memory, whole; fill at the end of the source.
-/
import Derived.Test.Qxb6616277aFmtRd
import Derived.BigRegion
import Derived.Deep.Cut
import Derived.Deep.RegionHeld3
namespace Go.Proofs.Qxb6616277aFmt
open Go.RowKit Go.Deep

/-- The interface value in which the reader holds its source. -/
abbrev srcV (S : Nat) : Value := .iface 39 (.pointer (some ⟨S, 0, none⟩))
abbrev eofV (x : Addr) : Value := .iface 104 (.pointer (some x))

/-- A reader over the bytes D (n of them, in row d), behind bytes.Reader S: what lies in buf, and where it stands. -/
structure Rdr (w0 : World) (R S d n : Nat) (D : Nat → Int) (x : Addr) (a : Option Addr) (L pos en base : Nat) (err : Value) (tail : Nat → Value) (W : World) : Prop where
  bel : Below w0.heap.size w0 W
  geR : w0.heap.size ≤ R
  geS : w0.heap.size ≤ S
  ged : w0.heap.size ≤ d
  rR : W.rowIs R 54 13 (rdr (srcV S) (.slice a L L) (.int .i64 pos) (.int .i64 en) (.int .i64 base) err tail)
  rS : ∃ pr, W.rowIs S 58 3 (brd (.slice (some ⟨d, 0, none⟩) n n) (.int .i64 (base + en : Nat)) pr)
  rD : W.rowIs d 5 n (fun j => .int .u8 (D j))
  buf : (a = none ∧ L = 0) ∨ ∃ B f, a = some ⟨B, 0, none⟩ ∧ w0.heap.size ≤ B ∧ B ≠ d ∧ W.rowIs B 5 L f ∧ ∀ j, pos ≤ j → j < en → f j = .int .u8 (D (base + j))
  le1 : pos ≤ en
  le2 : en ≤ L
  le3 : base + en ≤ n
  le4 : n ≤ 1048577
  le5 : L ≤ 131072
  er : err = .nilIface ∨ (err = eofV x ∧ base + en = n)
  ini : err = .nilIface → en = 0 → a = none ∧ L = 0
  don : ∃ q : Int, tail 0 = .int .i64 q

/-- 'max' of two, by its run. -/
theorem wp_max {P : Program} {o : Oper} {a : Act} {w w' : World} {K : Act → World → Prop} {Q : Exit → Act → World → Prop} {d s : Operand} {t t' : TypeId} {v u v' : Value} (hop : o.op = .call { callee := .builtin .max, args := #[d, s], argTypes := #[t, t'] }) (hd : a.eval d = v) (hs : a.eval s = u)
    (hr : (Builtin.max_ #[t, t'] o.type #[v, u]).run P w = .ok v' w') (h : K (a.put o.dst v') w') : o.wp P a w K Q := by
  unfold Oper.wp
  simp [execOp, hop, resolve, invoke, builtin, hd, hs, hr, Result.andThen]
  exact h

theorem method_read (a : Addr) (w : World) : (method 229 39 (.pointer (some a)) "Read").run Tryf.prog w = .ok (83, .pointer (some a)) w := by kernel_rfl

/-- Once the source has given its end: no more. -/
theorem fill_err (R : Nat) (x : Addr) (w : World) (h5 : w.cell? ⟨R, 5, none⟩ = some (eofV x)) :
    Calls Tryf.prog 46 #[.pointer (some ⟨R, 0, none⟩)] w fun e w' => e = .returned (.bool false) ∧ w' = w := by
  have he1 : ∀ W, (binOp .neq 28 (eofV x) .nilIface).run Tryf.prog W = .ok (.bool true) W := fun W => by kernel_rfl
  go_enter Tryf.func46, Tryf.ntmps46
  go_wp2
  go_ret
  exact ⟨rfl, rfl⟩

/-- The reader stands at P. -/
def At (w0 : World) (R S d n : Nat) (D : Nat → Int) (x : Addr) (P : Nat) (W : World) : Prop := ∃ a L pos en base err tail, base + pos = P ∧ Rdr w0 R S d n D x a L pos en base err tail W
/-- .. and the byte there lies in its buffer. -/
def Ready (w0 : World) (R S d n : Nat) (D : Nat → Int) (x : Addr) (P : Nat) (W : World) : Prop := ∃ a L pos en base err tail, pos < en ∧ base + pos = P ∧ Rdr w0 R S d n D x a L pos en base err tail W
structure Fp (w0 : World) (R S d n : Nat) (D : Nat → Int) (x : Addr) (P : Nat) (W : World) : Prop where
  here : At w0 R S d n D x P W
  ready : P < n → Ready w0 R S d n D x P W

/-- Behind a Read that gave k bytes. -/
theorem Rdr.filled {w0 w wr w5 : World} {R S d n : Nat} {D : Nat → Int} {x : Addr} {a : Option Addr} {L pos base : Nat} {tail : Nat → Value} {G C k : Nat} {f : Nat → Value} (H : Rdr w0 R S d n D x a L pos pos base .nilIface tail w) (hC : Chg (fun b => b = R) w wr)
    (hrR : wr.rowIs R 54 13 (rdr (srcV S) (.slice (some ⟨G, 0, none⟩) C C) (.int .i64 0) (.int .i64 0) (.int .i64 ((base : Int) + pos)) .nilIface tail)) (hG : w0.heap.size ≤ G) (hGd : G ≠ d) (hGR : G ≠ R) (hin : base + pos < n) (hk : k = min (n - (base + pos)) C) (hC0 : 0 < C) (hC1 : C ≤ 131072)
    (hP : ReadPost wr.drew S d n (base + pos) G 0 C k D f w5) : Rdr w0 R S d n D x (some ⟨G, 0, none⟩) C 0 k (base + pos) .nilIface tail (w5.setCell ⟨R, 3, none⟩ (.int .i64 k)) := by
  obtain ⟨pr, hS0⟩ := H.rS
  have hRS : S ≠ R := rowIs_ne hS0 H.rR (by decide)
  have hRd : d ≠ R := rowIs_ne H.rD H.rR (by decide)
  have hSd : d ≠ S := rowIs_ne H.rD hS0 (by decide)
  have hr5 := hP.chg.row (show wr.drew.rowIs R 54 13 _ from hrR) (fun e => by rcases e with e | e; exact hRS e.symm; exact hGR e.symm)
  have hd5 := hP.chg.row (show wr.drew.rowIs d 5 n _ from hC.row H.rD hRd) (fun e => by rcases e with e | e; exact hSd e; exact hGd e.symm)
  have hb1 : Below w0.heap.size w0 wr := hC.below H.bel (fun b hb e => by have := H.geR; omega) H.bel.size
  have hb2 : Below w0.heap.size w0 wr.drew := ⟨hb1.os, hb1.tape, hb1.output, hb1.size, hb1.block⟩
  have hb3 : Below w0.heap.size w0 w5 := hP.chg.below hb2 (fun b hb e => by have := H.geS; rcases e with e | e <;> omega) hb2.size
  refine ⟨hb3.setCell H.geR _, H.geR, H.geS, H.ged, (hr5.set 3 _).congr (fun j hj => by rcases j with _ | _ | _ | _ | _ | _ | j <;> first | rfl | simp [rdr]), ⟨_, hP.rS.setOther hRS _⟩, hd5.setOther hRd _, .inr ⟨G, _, rfl, hG, hGd, hP.rB.setOther hGR _, fun j _ hj => ?_⟩, Nat.zero_le _, by omega, by omega, H.le4, hC1, .inl rfl, fun _ h0 => ?_, H.don⟩
  · rw [if_pos (by omega), Nat.sub_zero]
  · exfalso; omega

/-- Behind a Read that gave none: the end. -/
theorem Rdr.ended {w0 w wr w5 : World} {R S d n : Nat} {D : Nat → Int} {x : Addr} {a : Option Addr} {L pos base : Nat} {tail : Nat → Value} {G C : Nat} {f : Nat → Value} (H : Rdr w0 R S d n D x a L pos pos base .nilIface tail w) (hC : Chg (fun b => b = R) w wr)
    (hrR : wr.rowIs R 54 13 (rdr (srcV S) (.slice (some ⟨G, 0, none⟩) C C) (.int .i64 0) (.int .i64 0) (.int .i64 ((base : Int) + pos)) .nilIface tail)) (hrG : wr.rowIs G 5 C f) (hG : w0.heap.size ≤ G) (hGd : G ≠ d) (hGR : G ≠ R) (hin : ¬ base + pos < n) (hC1 : C ≤ 131072)
    (hP : Still wr.drew w5) : Rdr w0 R S d n D x (some ⟨G, 0, none⟩) C 0 0 (base + pos) (eofV x) tail ((w5.setCell ⟨R, 3, none⟩ (.int .i64 0)).setCell ⟨R, 5, none⟩ (eofV x)) := by
  obtain ⟨pr, hS0⟩ := H.rS
  have hRS : S ≠ R := rowIs_ne hS0 H.rR (by decide)
  have hRd : d ≠ R := rowIs_ne H.rD H.rR (by decide)
  have hb : ∀ k : Nat, w5.heap[k]? = wr.heap[k]? := fun k => by rw [hP.heap]; rfl
  have hr5 := hrR.of_block (hb R)
  have hd5 := (hC.row H.rD hRd).of_block (hb d)
  have hS5 := (hC.row hS0 hRS).of_block (hb S)
  have hG5 := hrG.of_block (hb G)
  have hb1 : Below w0.heap.size w0 wr := hC.below H.bel (fun b hb e => by have := H.geR; omega) H.bel.size
  have hb3 : Below w0.heap.size w0 w5 := ⟨hP.os.trans hb1.os, hP.tape.trans hb1.tape, hP.output.trans hb1.output, by rw [hP.heap]; exact hb1.size, fun b hlt => (hb b).trans (hb1.block b hlt)⟩
  have hle := H.le3
  refine ⟨(hb3.setCell H.geR _).setCell H.geR _, H.geR, H.geS, H.ged, ((hr5.set 3 _).set 5 _).congr (fun j hj => by rcases j with _ | _ | _ | _ | _ | _ | j <;> first | rfl | simp [rdr]), ⟨_, (hS5.setOther hRS _).setOther hRS _⟩, (hd5.setOther hRd _).setOther hRd _, .inr ⟨G, _, rfl, hG, hGd, (hG5.setOther hGR _).setOther hGR _, fun j h1 h2 => ?_⟩, Nat.le_refl _, Nat.zero_le _, by omega, H.le4, hC1, .inr ⟨rfl, by omega⟩, fun h0 => ?_, H.don⟩
  · exfalso; omega
  · cases h0

end Go.Proofs.Qxb6616277aFmt
