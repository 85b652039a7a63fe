import Derived.Test.Qxb6616254aBuild
import Derived.Test.Qxb6616254aShut
namespace Go.Proofs.Qxb6616254a
open Go.RowKit Go.Maps

set_option maxHeartbeats 400000 in
theorem meter_any (n : Int) (w : World) :
    Calls Try.prog 21 #[.int .i64 n] w fun e w' => e = .returned (.pointer (some ⟨w.heap.size, 0, none⟩)) ∧ ∃ o, w' = w.alloc o := by
  go_enter Try.func21, Try.ntmps21
  go_wp2
  go_ret
  exact ⟨rfl, _, rfl⟩

theorem zero36 (w : World) : (zeroValue 36).run Try.prog w = .ok (.agg #[.int .i64 0, .int .i64 0]) w := by kernel_rfl
theorem Try.info32 : (Try.prog.info? 32).map (fun i => (i.zero, i.size, i.bytes)) = some (some (.int .i64 0), 1, 8) := by kernel_rfl

/-- A new guard's block. -/
def gCells (sp iv ac nt hs : Int) (p : Nat) : Array Value :=
  #[.int .u64 sp, .int .i64 iv, .int .i64 ac, .int .i64 nt, .int .i64 hs, .pointer (some ⟨p, 0, none⟩), .slice none 0 0,
    .int .i64 0, .int .i64 0, .int .i64 0, .int .i64 0, .int .u64 0, .int .u64 0, .slice none 0 0,
    .int .i64 0, .int .i64 0, .int .i64 0, .int .i64 0, .int .u64 0, .int .u64 0, .slice none 0 0,
    .int .i64 0, .int .i64 0, .int .i64 0, .int .i64 0, .int .u64 0, .int .u64 0, .slice none 0 0,
    .int .i64 0, .int .i64 0, .int .i64 0, .int .i64 0, .int .u64 0, .int .u64 0, .slice none 0 0,
    .bool false, .int .u64 0, .nilFunc, .pointer none,
    .int .u64 0, .int .i64 0, .int .i64 0, .int .u64 0, .int .i64 0, .int .i64 0, .int .i64 0, .int .u64 0, .int .i64 0, .int .i64 0, .int .i64 0, .int .u64 0, .int .i64 0, .int .i64 0, .int .i64 0, .int .u64 0, .int .i64 0]

theorem grd_new (w : World) (sp iv ac nt hs : Int) (p : Nat) : Grd (w.alloc (.cells (gCells sp iv ac nt hs p) 70)).drew w.heap.size (fun _ => 0) (fun _ => 0) (fun _ => 0) false ac nt := by
  have hc : ∀ o v, (gCells sp iv ac nt hs p)[o]? = some v → (w.alloc (.cells (gCells sp iv ac nt hs p) 70)).drew.cell? ⟨w.heap.size, o, none⟩ = some v := fun o v h => by
    show (w.alloc _).cell? _ = _
    rw [World.cell?_alloc_at _ _ _ _ rfl]; exact h
  have h4 : ∀ (q : Nat → Prop), q 0 → q 1 → q 2 → q 3 → ∀ k, k < 4 → q k := fun q a b c d k hk => by
    obtain rfl | rfl | rfl | rfl : k = 0 ∨ k = 1 ∨ k = 2 ∨ k = 3 := by omega
    all_goals assumption
  refine ⟨hc _ _ rfl, hc _ _ rfl, ?_, ?_, ?_, ?_, ?_, ?_, ?_, hc _ _ rfl, fun o => ?_⟩
  any_goals exact h4 _ (hc _ _ rfl) (hc _ _ rfl) (hc _ _ rfl) (hc _ _ rfl)
  show (w.alloc _).frozen? _ = _
  exact World.frozen?_alloc_at _ _ _ _ rfl

/-- What NewGuard has laid behind k rounds. -/
def upK (L : Nat → Bool) (U : Nat → Int) (k : Nat) : Nat → Int := fun j => if j < k then (if L j then U j else 10000) else 0
def upF (L : Nat → Bool) (U : Nat → Int) : Nat → Int := fun j => if L j then U j else 10000
def stF (L : Nat → Bool) (U : Nat → Int) : Nat → Int := fun j => if gB (L j) (U j) then 2 else 1
def stN (L : Nat → Bool) (U : Nat → Int) (k : Nat) : Nat → Int := fun j => if j < k then stF L U j else 0

theorem ownsMap_below {w w' : World} {k : TypeId} {R : Value → Option (DataW Unit × List MemPlace)} {b n B : Nat} {D : DataW Unit} (h : w.ownsMap Try.prog k R b n D) (hb : Below B w w') (hB : b < B) : w'.ownsMap Try.prog k R b n D := by
  obtain ⟨es, clock, h1, r⟩ := h
  exact ⟨es, clock, by rw [hb.block b hB]; exact h1, r⟩

theorem look_yes {w : World} {b n : Nat} {D : DataW Unit} {L : Nat → Bool} {U V : Nat → Int} (h : w.ownsMap Try.prog 32 thElem b n D) (hd : Dat L U V 4 D) {k : Nat} (hk : k < 4) (hL : L k = true) :
    (Instr.lookup 27 (.map (some b)) (.int .i64 k) true).run Try.prog w = .ok (.tuple #[.agg #[.int .i64 (U k), .int .i64 (V k)], .bool true]) w := by
  obtain ⟨v, ps, hrun, hv⟩ := h.look_ok law32 Try.underlying27 (zero36 w) (thElem_mk 0 0) (keyOf_int_mk Try.underlying32 (WalkArith.wf_i64 (n := (k : Int)) (by omega)))
  obtain ⟨h1, h2⟩ := hd k hk
  rw [h2 hk hL] at hv
  rw [h1] at hrun
  rw [hrun, thElem_inv hv]
  simp [hL, hk]

theorem look_no {w : World} {b n : Nat} {D : DataW Unit} {L : Nat → Bool} {U V : Nat → Int} (h : w.ownsMap Try.prog 32 thElem b n D) (hd : Dat L U V 4 D) {k : Nat} (hk : k < 4) (hL : L k = false) :
    (Instr.lookup 27 (.map (some b)) (.int .i64 k) true).run Try.prog w = .ok (.tuple #[.agg #[.int .i64 0, .int .i64 0], .bool false]) w := by
  obtain ⟨v, ps, hrun, hv⟩ := h.look_ok law32 Try.underlying27 (zero36 w) (thElem_mk 0 0) (keyOf_int_mk Try.underlying32 (WalkArith.wf_i64 (n := (k : Int)) (by omega)))
  obtain ⟨h1, h2⟩ := hd k hk
  have hh : has D (.int .i64 (k : Int)) = false := by rw [h1]; simp [hL]
  rw [atKey_of_not_has hh] at hv
  rw [hh] at hrun
  rw [hrun, thElem_inv hv]

/-- The loop's relation in NewGuard. B: the heap's size at the call's beginning. -/
def NG (L : Nat → Bool) (U V : Nat → Int) (ac nt : Int) (bm : Nat) (w : World) (k : Nat) (wr : World) : Prop :=
  Grd wr (w.heap.size + 2) (upK L U k) (upK L V k) (stN L U k) false ac nt ∧ wr.cell? ⟨w.heap.size, 4, none⟩ = some (.map (some bm)) ∧
  (∃ v n xs, wr.cell? ⟨w.heap.size + 2, 6, none⟩ = some v ∧ wr.ownsRow (w.heap.size + 3) 32 1 v n xs ∧ n ≤ k) ∧ Below w.heap.size w wr ∧ w.heap.size + 3 ≤ wr.heap.size

/-- The store of one type's state, seven cells, and the draw of its region. -/
def put7 (w : World) (g k : Nat) (u l : Int) : World :=
  (((((((w.setCell ⟨g, 7 + k * 7, none⟩ (.int .i64 u)).setCell ⟨g, 7 + k * 7 + 1, none⟩ (.int .i64 l)).setCell ⟨g, 7 + k * 7 + 2, none⟩ (.int .i64 2)).setCell ⟨g, 7 + k * 7 + 3, none⟩ (.int .i64 0)).setCell ⟨g, 7 + k * 7 + 4, none⟩ (.int .u64 0)).setCell ⟨g, 7 + k * 7 + 5, none⟩ (.int .u64 0)).setCell ⟨g, 7 + k * 7 + 6, none⟩ (.slice none 0 0)).drew

theorem drew_cell (w : World) (a : Addr) : w.drew.cell? a = w.cell? a := rfl
theorem drew_frozen (w : World) (a : Addr) : w.drew.frozen? a = w.frozen? a := rfl
theorem grown_drew {w w' : World} {r : Option Nat} (h : w.grownBy w' r) : w.grownBy w'.drew r := ⟨h.os, h.tape, h.output, h.size, h.block⟩

theorem put7_far (w : World) (g k : Nat) (u l : Int) (o : Nat) (h : o < 7 + k * 7 ∨ 7 + k * 7 + 6 < o) : (put7 w g k u l).cell? ⟨g, o, none⟩ = w.cell? ⟨g, o, none⟩ := by
  rw [put7, drew_cell, cell_other (by omega), cell_other (by omega), cell_other (by omega), cell_other (by omega), cell_other (by omega), cell_other (by omega), cell_other (by omega)]

theorem put7_frozen (w : World) (g k : Nat) (u l : Int) (a : Addr) : (put7 w g k u l).frozen? a = w.frozen? a := by
  rw [put7, drew_frozen, World.frozen?_setCell, World.frozen?_setCell, World.frozen?_setCell, World.frozen?_setCell, World.frozen?_setCell, World.frozen?_setCell, World.frozen?_setCell]

theorem put7_grown (w : World) (g k : Nat) (u l : Int) : w.grownBy (put7 w g k u l) (some g) := by
  rw [put7]
  exact grown_drew (grown_setCell (grown_setCell (grown_setCell (grown_setCell (grown_setCell (grown_setCell (grown_setCell (World.grownBy.refl _ _) _) _) _) _) _) _) _)

theorem Grd.put7 {w : World} {g k : Nat} {up lo st : Nat → Int} {sh : Bool} {ac nt : Int} (h : Grd w g up lo st sh ac nt) (hk : k < 4) (u l : Int) :
    Grd (put7 w g k u l) g (fun j => if j = k then u else up j) (fun j => if j = k then l else lo j) (fun j => if j = k then 2 else st j) sh ac nt := by
  have s0 := h.up k hk
  have s1 := h.lo k hk
  have s2 := h.st k hk
  have s3 := h.lv k hk
  have s4 := h.tot k hk
  have s5 := h.sto k hk
  have s6 := h.hi k hk
  refine ⟨?_, ?_, fun j hj => ?_, fun j hj => ?_, fun j hj => ?_, fun j hj => ?_, fun j hj => ?_, fun j hj => ?_, fun j hj => ?_, ?_, fun o => ?_⟩
  · rw [put7_far _ _ _ _ _ _ (by omega)]; exact h.act
  · rw [put7_far _ _ _ _ _ _ (by omega)]; exact h.ntf
  · by_cases e : j = k
    · subst e
      rw [if_pos rfl]
      rw [Go.Proofs.Qxb6616254a.put7, drew_cell, cell_other (by omega), cell_other (by omega), cell_other (by omega), cell_other (by omega), cell_other (by omega), cell_other (by omega), cell_same s0]
    · rw [if_neg e, put7_far _ _ _ _ _ _ (by omega)]; exact h.up j hj
  · by_cases e : j = k
    · subst e
      rw [if_pos rfl]
      rw [Go.Proofs.Qxb6616254a.put7, drew_cell, cell_other (by omega), cell_other (by omega), cell_other (by omega), cell_other (by omega), cell_other (by omega), cell_same (by rw [cell_other (by omega)]; exact s1)]
    · rw [if_neg e, put7_far _ _ _ _ _ _ (by omega)]; exact h.lo j hj
  · by_cases e : j = k
    · subst e
      rw [if_pos rfl]
      rw [Go.Proofs.Qxb6616254a.put7, drew_cell, cell_other (by omega), cell_other (by omega), cell_other (by omega), cell_other (by omega), cell_same (by rw [cell_other (by omega), cell_other (by omega)]; exact s2)]
    · rw [if_neg e, put7_far _ _ _ _ _ _ (by omega)]; exact h.st j hj
  · by_cases e : j = k
    · subst e
      rw [Go.Proofs.Qxb6616254a.put7, drew_cell, cell_other (by omega), cell_other (by omega), cell_other (by omega), cell_same (by rw [cell_other (by omega), cell_other (by omega), cell_other (by omega)]; exact s3)]
    · rw [put7_far _ _ _ _ _ _ (by omega)]; exact h.lv j hj
  · by_cases e : j = k
    · subst e
      rw [Go.Proofs.Qxb6616254a.put7, drew_cell, cell_other (by omega), cell_other (by omega), cell_same (by rw [cell_other (by omega), cell_other (by omega), cell_other (by omega), cell_other (by omega)]; exact s4)]
    · rw [put7_far _ _ _ _ _ _ (by omega)]; exact h.tot j hj
  · by_cases e : j = k
    · subst e
      rw [Go.Proofs.Qxb6616254a.put7, drew_cell, cell_other (by omega), cell_same (by rw [cell_other (by omega), cell_other (by omega), cell_other (by omega), cell_other (by omega), cell_other (by omega)]; exact s5)]
    · rw [put7_far _ _ _ _ _ _ (by omega)]; exact h.sto j hj
  · by_cases e : j = k
    · subst e
      rw [Go.Proofs.Qxb6616254a.put7, drew_cell, cell_same (by rw [cell_other (by omega), cell_other (by omega), cell_other (by omega), cell_other (by omega), cell_other (by omega), cell_other (by omega)]; exact s6)]
    · rw [put7_far _ _ _ _ _ _ (by omega)]; exact h.hi j hj
  · rw [put7_far _ _ _ _ _ _ (by omega)]; exact h.sh
  · rw [put7_frozen]; exact h.fr o

theorem Grd.congr {w : World} {g : Nat} {up lo st up' lo' st' : Nat → Int} {sh : Bool} {act ntf : Int} (h : Grd w g up lo st sh act ntf) (e1 : ∀ j, j < 4 → up j = up' j) (e2 : ∀ j, j < 4 → lo j = lo' j) (e3 : ∀ j, j < 4 → st j = st' j) : Grd w g up' lo' st' sh act ntf :=
  { h with up := fun j hj => by rw [h.up j hj, e1 j hj]
           lo := fun j hj => by rw [h.lo j hj, e2 j hj]
           st := fun j hj => by rw [h.st j hj, e3 j hj] }

/-- The state ahead of the store of one type's state: wx; the thresholds lie in block tb. -/
structure Tl (L : Nat → Bool) (U V : Nat → Int) (ac nt : Int) (bm : Nat) (w : World) (k tb : Nat) (u l : Int) (wx : World) : Prop where
  G : Grd wx (w.heap.size + 2) (upK L U k) (upK L V k) (stN L U k) false ac nt
  t0 : wx.cell? ⟨tb, 0, none⟩ = some (.int .i64 u)
  t1 : wx.cell? ⟨tb, 1, none⟩ = some (.int .i64 l)
  c4 : wx.cell? ⟨w.heap.size, 4, none⟩ = some (.map (some bm))
  row : ∃ v n xs, wx.cell? ⟨w.heap.size + 2, 6, none⟩ = some v ∧ wx.ownsRow (w.heap.size + 3) 32 1 v n xs ∧ n ≤ k + 1
  bel : Below w.heap.size w wx
  tb3 : w.heap.size + 3 ≤ tb
  sz : w.heap.size + 3 ≤ wx.heap.size

theorem grown_cell {w w' : World} {g b o : Nat} (h : w.grownBy w' (some g)) (hb : b ≠ g) {v : Value} (hc : w.cell? ⟨b, o, none⟩ = some v) : w'.cell? ⟨b, o, none⟩ = some v := h.cell hc (by intro e; cases e; exact hb rfl)

theorem row_grown {w w' : World} {g n : Nat} {v : Value} {xs : List Value} (h : w.ownsRow (g + 1) 32 1 v n xs) (hg : w.grownBy w' (some g)) : w'.ownsRow (g + 1) 32 1 v n xs :=
  h.kept hg (by
    cases e : v.ownBlock with
    | none => exact .inl rfl
    | some b => exact .inr (by have := (h.lt b e).1; intro e'; cases e'; omega))

theorem below_grown {w w' w'' : World} {B g : Nat} (h : Below B w w') (hg : w'.grownBy w'' (some g)) (hB : B ≤ g) (hs : B ≤ w'.heap.size) : Below B w w'' :=
  h.grown hg hs (fun j hj => by cases hj; exact hB)

/-- Behind the store, where the type is guarded. -/
theorem Tl.two {L : Nat → Bool} {U V : Nat → Int} {ac nt : Int} {bm : Nat} {w : World} {k tb : Nat} {u l : Int} {wx : World} (h : Tl L U V ac nt bm w k tb u l wx) (hk : k < 4)
    (hu : u = if L k then U k else 10000) (hl : l = if L k then V k else 10000) (hs : u ≠ 10000) : NG L U V ac nt bm w (k + 1) (put7 wx (w.heap.size + 2) k u l) := by
  have hg := put7_grown wx (w.heap.size + 2) k u l
  obtain ⟨v, n, xs, r1, r2, r3⟩ := h.row
  refine ⟨(h.G.put7 hk u l).congr ?_ ?_ ?_, grown_cell hg (by omega) h.c4, ⟨v, n, xs, by rw [put7_far _ _ _ _ _ _ (by omega)]; exact r1, row_grown r2 hg, r3⟩, below_grown h.bel hg (by omega) (by have := h.sz; omega), Nat.le_trans h.sz hg.size⟩
  · intro j _
    by_cases e : j = k
    · subst e; simp [upK, hu]
    · have : (j < k + 1) = (j < k) := by simp; omega
      simp only [if_neg e, upK, this]
  · intro j _
    by_cases e : j = k
    · subst e; simp [upK, hl]
    · have : (j < k + 1) = (j < k) := by simp; omega
      simp only [if_neg e, upK, this]
  · intro j _
    by_cases e : j = k
    · subst e
      have : gB (L j) (U j) = true := by
        cases hL : L j
        · simp [hL] at hu; exact absurd hu hs
        · simp [hL] at hu; subst hu; simpa [gB] using hs
      simp [stN, stF, this]
    · have : (j < k + 1) = (j < k) := by simp; omega
      simp only [if_neg e, stN, this]

/-- Behind the second store, where it is not. -/
theorem Tl.one {L : Nat → Bool} {U V : Nat → Int} {ac nt : Int} {bm : Nat} {w : World} {k tb : Nat} {u l : Int} {wx : World} (h : Tl L U V ac nt bm w k tb u l wx) (hk : k < 4)
    (hu : u = if L k then U k else 10000) (hl : l = if L k then V k else 10000) (hs : u = 10000) : NG L U V ac nt bm w (k + 1) ((put7 wx (w.heap.size + 2) k u l).setCell ⟨w.heap.size + 2, 7 + k * 7 + 2, none⟩ (.int .i64 1)) := by
  have hg := grown_setCell (o := 7 + k * 7 + 2) (put7_grown wx (w.heap.size + 2) k u l) (.int .i64 1)
  obtain ⟨v, n, xs, r1, r2, r3⟩ := h.row
  refine ⟨((h.G.put7 hk u l).setSt (k := k) 1).congr ?_ ?_ ?_, grown_cell hg (by omega) h.c4, ⟨v, n, xs, by rw [cell_other (by omega), put7_far _ _ _ _ _ _ (by omega)]; exact r1, row_grown r2 hg, r3⟩, below_grown h.bel hg (by omega) (by have := h.sz; omega), Nat.le_trans h.sz hg.size⟩
  · intro j _
    by_cases e : j = k
    · subst e; simp [upK, hu]
    · have : (j < k + 1) = (j < k) := by simp; omega
      simp only [if_neg e, upK, this]
  · intro j _
    by_cases e : j = k
    · subst e; simp [upK, hl]
    · have : (j < k + 1) = (j < k) := by simp; omega
      simp only [if_neg e, upK, this]
  · intro j _
    by_cases e : j = k
    · subst e
      have : gB (L j) (U j) = false := by
        cases hL : L j
        · simp [gB]
        · simp [hL] at hu; subst hu; simp [gB, hs]
      simp [stN, stF, this]
    · have : (j < k + 1) = (j < k) := by simp; omega
      simp only [if_neg e, stN, this]

/-- A type that is not listed: one block more. -/
theorem NG.tl_no {L : Nat → Bool} {U V : Nat → Int} {ac nt : Int} {bm : Nat} {w : World} {k : Nat} {wr : World} (h : NG L U V ac nt bm w k wr) :
    Tl L U V ac nt bm w k wr.heap.size 10000 10000 (wr.alloc (.cells #[.int .i64 10000, .int .i64 10000] 36)) := by
  obtain ⟨hG, hc4, ⟨v, n, xs, hc6, hrow, hn⟩, hbel, hsz⟩ := h
  have hbx : Below wr.heap.size wr (wr.alloc (.cells #[.int .i64 10000, .int .i64 10000] 36)) := (Below.refl _ _).alloc (Nat.le_refl _) _
  exact ⟨hG.below hbx (by omega), by simp [go_sem], by simp [go_sem], by rw [hbx.cell (p := ⟨w.heap.size, 4, none⟩) (by simp; omega)]; exact hc4,
    ⟨v, n, xs, by rw [hbx.cell (p := ⟨w.heap.size + 2, 6, none⟩) (by simp; omega)]; exact hc6, hrow.alloc _, by omega⟩, hbel.trans (hbx.mono (by omega)), hsz, Nat.le_trans hsz (by simp)⟩

/-- A type that is listed: two blocks more, the append, the store of the new slice. -/
theorem NG.tl_yes {L : Nat → Bool} {U V : Nat → Int} {ac nt : Int} {bm : Nat} {w : World} {k n : Nat} {v v' : Value} {xs ys : List Value} {wr w1 : World} {u l : Int} (o : Obj) (h : NG L U V ac nt bm w k wr) (hn : n ≤ k) (hrow : wr.ownsRow (w.heap.size + 3) 32 1 v n xs)
    (hgr : ((wr.alloc (.cells #[.int .i64 u, .int .i64 l] 36)).alloc o).grownBy w1 v.ownBlock) (hown : w1.ownsRow (w.heap.size + 3) 32 1 v' (n + 1) ys) :
    (∃ x, w1.cell? ⟨w.heap.size + 2, 6, none⟩ = some x) ∧ w1.frozen? ⟨w.heap.size + 2, 6, none⟩ = false ∧ Tl L U V ac nt bm w k wr.heap.size u l (w1.setCell ⟨w.heap.size + 2, 6, none⟩ v') := by
  obtain ⟨hG, hc4, ⟨v0, n0, xs0, hc6, _, _⟩, hbel, hsz⟩ := h
  have hbx : Below wr.heap.size wr ((wr.alloc (.cells #[.int .i64 u, .int .i64 l] 36)).alloc o) := below2 _ _ _
  have hne : ∀ b, (b < w.heap.size + 3 ∨ wr.heap.size ≤ b) → some b ≠ v.ownBlock := fun b hb e => by
    have := hrow.lt b e.symm
    omega
  have hblk : ∀ b, b < wr.heap.size → b < w.heap.size + 3 → w1.heap[b]? = wr.heap[b]? := fun b h1 h2 => by
    rw [hgr.block b (by simp; omega) (hne b (.inl h2)), hbx.block b h1]
  have hb1 : Below (w.heap.size + 3) wr w1 := ⟨hgr.os, hgr.tape, hgr.output, Nat.le_trans (by simp; omega) hgr.size, fun b hb => hblk b (by omega) hb⟩
  have hG1 := hG.below hb1 (by omega)
  have c6 : w1.cell? ⟨w.heap.size + 2, 6, none⟩ = some v0 := by rw [hb1.cell (p := ⟨w.heap.size + 2, 6, none⟩) (by simp)]; exact hc6
  have hs1 : w1.grownBy (w1.setCell ⟨w.heap.size + 2, 6, none⟩ v') (some (w.heap.size + 2)) := grown_setCell (World.grownBy.refl _ _) _
  have ht : ∀ j x, (#[Value.int .i64 u, Value.int .i64 l] : Array Value)[j]? = some x → w1.cell? ⟨wr.heap.size, j, none⟩ = some x := fun j x hx => by
    refine hgr.cell (a := ⟨wr.heap.size, j, none⟩) ?_ (hne _ (.inr (Nat.le_refl _)))
    rw [World.cell?_alloc_lt _ _ _ (by simp), World.cell?_alloc_at _ _ _ _ rfl]
    exact hx
  refine ⟨⟨_, c6⟩, hG1.fr 6, ⟨?_, ?_, ?_, ?_, ⟨v', n + 1, ys, cell_same c6, row_grown hown hs1, by omega⟩, ?_, hsz, ?_⟩⟩
  · refine ⟨?_, ?_, fun j hj => ?_, fun j hj => ?_, fun j hj => ?_, fun j hj => ?_, fun j hj => ?_, fun j hj => ?_, fun j hj => ?_, ?_, fun o => ?_⟩
    · rw [cell_other (by omega)]; exact hG1.act
    · rw [cell_other (by omega)]; exact hG1.ntf
    · rw [cell_other (by omega)]; exact hG1.up j hj
    · rw [cell_other (by omega)]; exact hG1.lo j hj
    · rw [cell_other (by omega)]; exact hG1.st j hj
    · rw [cell_other (by omega)]; exact hG1.lv j hj
    · rw [cell_other (by omega)]; exact hG1.tot j hj
    · rw [cell_other (by omega)]; exact hG1.sto j hj
    · rw [cell_other (by omega)]; exact hG1.hi j hj
    · rw [cell_other (by omega)]; exact hG1.sh
    · rw [World.frozen?_setCell]; exact hG1.fr o
  · exact grown_cell hs1 (by omega) (ht 0 _ rfl)
  · exact grown_cell hs1 (by omega) (ht 1 _ rfl)
  · exact grown_cell hs1 (by omega) (by rw [hb1.cell (p := ⟨w.heap.size, 4, none⟩) (by simp)]; exact hc4)
  · exact below_grown (hbel.trans (hb1.mono (by omega))) hs1 (by omega) (by have := hb1.size; omega)
  · exact Nat.le_trans (Nat.le_trans hsz hb1.size) hs1.size

end Go.Proofs.Qxb6616254a
