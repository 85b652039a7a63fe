/-
  The small functions on the laws' roads, walked: the bounds on total length, zzClone, zzNumber.
-/
import Derived.Test.Qxb6616277aFmtRows
import Derived.Test.Qxb6616277aFmtPlain
import Derived.WalkKit
import Derived.WalkSpells
import Derived.WalkLawsBesides
import Derived.Deep.OwnRows
import Derived.Deep.Draws
import Derived.Lib.SliceRun
import Derived.Laws.IdiomCopy
namespace Go.Proofs.Qxb6616277aFmt
open Go.RowKit Go.Deep

theorem hid {p : Prop} (h : p) : Hid p := h
theorem Tryf.info5 : (Tryf.prog.info? 5).map (fun i => (i.zero, i.size, i.bytes)) = some (some (.int .u8 0), 1, 1) := by kernel_rfl
theorem Tryf.size5 : (Tryf.prog.info? 5).map (·.size) = some 1 := by kernel_rfl

set_option maxHeartbeats 400000 in
theorem zzBytesCut_any (a0 : Option Addr) (n0 c0 : Nat) (x : Int) (w : World) :
    Calls Tryf.prog 13 #[.slice a0 n0 c0, .int .i64 x] w fun e w' => e = .returned (.bool (decide (n0 ≤ 1048576))) ∧ w' = w := by
  by_cases h : n0 ≤ 1048576
  · go_enter Tryf.func13, Tryf.ntmps13
    go_wp2
    go_ret
    exact ⟨by simp [h], rfl⟩
  · go_enter Tryf.func13, Tryf.ntmps13
    go_wp2
    go_ret
    exact ⟨by simp [h], rfl⟩

set_option maxHeartbeats 400000 in
theorem zzBytesSign_any (a0 : Option Addr) (n0 c0 : Nat) (w : World) :
    Calls Tryf.prog 16 #[.slice a0 n0 c0] w fun e w' => e = .returned (.bool (decide (n0 ≤ 1048576))) ∧ w' = w := by
  by_cases h : n0 ≤ 1048576
  · go_enter Tryf.func16, Tryf.ntmps16
    go_wp2
    go_ret
    exact ⟨by simp [h], rfl⟩
  · go_enter Tryf.func16, Tryf.ntmps16
    go_wp2
    go_ret
    exact ⟨by simp [h], rfl⟩

/-- k bytes of D, from q on, as cells. -/
def bytesAt (D : Nat → Int) (q k : Nat) : List Value := (List.range k).map (fun j => .int .u8 (D (q + j)))
theorem bytesAt_length (D : Nat → Int) (q k : Nat) : (bytesAt D q k).length = k := by simp [bytesAt]
theorem bytesAt_get {D : Nat → Int} {q k j : Nat} {v : Value} (h : (bytesAt D q k)[j]? = some v) : j < k ∧ v = .int .u8 (D (q + j)) := by
  have hj : j < k := by
    have := (List.getElem?_eq_some_iff.1 h).1
    simpa [bytesAt_length] using this
  refine ⟨hj, ?_⟩
  simp [bytesAt, hj] at h
  exact h.symm
theorem bytesAt_one {D : Nat → Int} {q k : Nat} : ∀ v ∈ bytesAt D q k, v.oneCell' = true := fun v hv => by
  simp [bytesAt] at hv
  obtain ⟨j, _, rfl⟩ := hv
  rfl

theorem setCells_rowIs (b t n : Nat) : ∀ (vs : List Value) (g : Nat → Value) (o : Nat) (W : World) (f : Nat → Value), (∀ j, j < vs.length → vs[j]? = some (g j)) → W.rowIs b t n f → (W.setCells b o vs).rowIs b t n (fun j => if o ≤ j ∧ j < o + vs.length then g (j - o) else f j)
  | [], g, o, W, f, _, h => h.congr (fun j _ => by rw [if_neg (by simp)])
  | v :: vs, g, o, W, f, hg, h => by
    have h1 := setCells_rowIs b t n vs (fun j => g (j + 1)) (o + 1) (W.setCell ⟨b, o, none⟩ v) _ (fun j hj => by have := hg (j + 1) (by simp; omega); simpa using this) (h.set o v)
    have h0 : v = g 0 := by have := hg 0 (by simp); simpa using this
    refine World.rowIs.congr h1 (fun j _ => ?_)
    by_cases e : j = o
    · subst e
      rw [if_neg (by omega), if_pos rfl, if_pos (by simp), h0, Nat.sub_self]
    · by_cases e2 : o + 1 ≤ j ∧ j < o + 1 + vs.length
      · rw [if_pos e2, if_pos (by simp; omega)]
        rw [show j - o = (j - (o + 1)) + 1 by omega]
      · rw [if_neg e2, if_neg e, if_neg (by simp; omega)]

theorem setCells_grown (b : Nat) : ∀ (vs : List Value) (o : Nat) (W : World), W.grownBy (W.setCells b o vs) (some b)
  | [], _, W => World.grownBy.refl W _
  | v :: vs, o, W => by
    have h1 : W.grownBy (W.setCell ⟨b, o, none⟩ v) (some b) := ⟨rfl, rfl, rfl, by simp [World.setCell], fun k _ hk => Below.heap_setCell _ _ _ _ (by intro e; exact hk (by rw [e]))⟩
    have h2 := setCells_grown b vs (o + 1) (W.setCell ⟨b, o, none⟩ v)
    exact ⟨h2.os.trans h1.os, h2.tape.trans h1.tape, h2.output.trans h1.output, Nat.le_trans h1.size h2.size, fun k hk hne => (h2.block k (Nat.lt_of_lt_of_le hk h1.size) hne).trans (h1.block k hk hne)⟩

/-- 'copy' of k bytes into a row: the run. -/
theorem run_copy_bytes (W : World) (ty : TypeId) (b o dLen dCap : Nat) (a : Addr) (sLen sCap k q n t : Nat) (D : Nat → Int) (f : Nat → Value) (hk : k = Nat.min sLen dLen) (hr : W.rowIs b t n f) (hfit : o + k ≤ n)
    (hsrc : ∀ j, j < k → W.cell? (a.add j) = some (.int .u8 (D (q + j)))) :
    (Builtin.copy_ #[22, 22] ty #[.slice (some ⟨b, o, none⟩) dLen dCap, .slice (some a) sLen sCap]).run Tryf.prog W = .ok (.int .i64 k) (W.setCells b o (bytesAt D q k)) := by
  have h := run_copy_cells (P := Tryf.prog) W 22 22 ty 5 b o dLen dCap a sLen sCap (bytesAt D q k) Tryf.underlying22 Tryf.size5 (by rw [bytesAt_length]; exact hk)
    (fun j v hv => by obtain ⟨hj, rfl⟩ := bytesAt_get hv; exact hsrc j hj) (fun j hj => by rw [bytesAt_length] at hj; rw [hr.cell (by omega)]; rfl) (fun j _ => hr.frozen _) bytesAt_one
  rw [bytesAt_length] at h
  exact h

/-- The row behind it. -/
theorem copied_row {W : World} {b o k q n t : Nat} {D : Nat → Int} {f : Nat → Value} (hr : W.rowIs b t n f) :
    (W.setCells b o (bytesAt D q k)).rowIs b t n (fun j => if o ≤ j ∧ j < o + k then .int .u8 (D (q + (j - o))) else f j) :=
  (setCells_rowIs b t n (bytesAt D q k) (fun j => .int .u8 (D (q + j))) o W f (fun j hj => by rw [bytesAt_length] at hj; simp [bytesAt, hj]) hr).congr (fun j _ => by rw [bytesAt_length])

/-- What zzClone leaves: a row of its own, the same bytes. -/
structure Cl (w : World) (n : Nat) (D : Nat → Int) (W : World) : Prop where
  bel : Below w.heap.size w W
  row : W.rowIs w.heap.size 5 n (fun j => .int .u8 (D j))

set_option maxHeartbeats 400000 in
set_option maxRecDepth 100000 in
theorem zzClone_any (b off n cp : Nat) (D : Nat → Int) (w : World) (hn : n ≤ 1048577) (hc : ∀ j, j < n → w.cell? ⟨b, off + j, none⟩ = some (.int .u8 (D j))) :
    Calls Tryf.prog 7 #[.slice (some ⟨b, off, none⟩) n cp] w fun e w' => e = .returned (.slice (some ⟨w.heap.size, 0, none⟩) n n) ∧ Cl w n D w' := by
  obtain ⟨i5, hi5, hz0, hz1, hz2⟩ := info_parts Tryf.info5
  have hmk : ∀ (W : World), (Instr.makeSlice 22 (.int .i64 n) (.int .i64 n)).run Tryf.prog W = .ok (.slice (some ⟨W.heap.size, 0, none⟩) n n) (W.alloc (.cells (madeCells #[.int .u8 0] n) 5)) := fun W => by
    have h := run_make (P := Tryf.prog) W 22 5 i5 _ Tryf.underlying22 hi5 hz0 .i64 .i64 n n (by omega) (by omega) (by rw [hz2]; omega) (by omega)
    simpa [hz1, Value.cells] using h
  have hA := World.rowIs_made w (.int .u8 0) n 5
  have hcp : ∀ ty, (Builtin.copy_ #[22, 22] ty #[.slice (some ⟨w.heap.size, 0, none⟩) n n, .slice (some ⟨b, off, none⟩) n cp]).run Tryf.prog (w.alloc (.cells (madeCells #[.int .u8 0] n) 5)) = .ok (.int .i64 n) ((w.alloc (.cells (madeCells #[.int .u8 0] n) 5)).setCells w.heap.size 0 (bytesAt D 0 n)) := fun ty =>
    run_copy_bytes _ ty _ 0 n n ⟨b, off, none⟩ n cp n 0 n 5 D _ (by simp) hA (by omega) (fun j hj => by
      have h1 := hc j hj
      have h2 : b < w.heap.size := World.block_lt_of_cell? w _ h1
      rw [Go.WideShapes.add_plain, show 0 + j = j by omega]
      simp only [World.cell?] at h1 ⊢
      rw [blk_alloc_lt _ _ _ h2]
      exact h1)
  have hfin := hid (show Cl w n D ((w.alloc (.cells (madeCells #[.int .u8 0] n) 5)).setCells w.heap.size 0 (bytesAt D 0 n)) from
    ⟨((Below.refl _ _).alloc (Nat.le_refl _) _).grown (setCells_grown _ _ _ _) (by simp) (fun k e => by have := Option.some.inj e; omega),
      (copied_row (D := D) (q := 0) (o := 0) (k := n) hA).congr (fun j hj => by simp [hj])⟩)
  have hnil : ∀ W, (binOp .eql 22 (.slice (some ⟨b, off, none⟩) n cp) (.slice none 0 0)).run Tryf.prog W = .ok (.bool false) W := fun _ => by kernel_rfl
  clear hA hi5 hz0 hz1 hz2 hc
  go_enter Tryf.func7, Tryf.ntmps7
  go_wp2
  go_ret
  exact ⟨rfl, hfin.out⟩

end Go.Proofs.Qxb6616277aFmt
