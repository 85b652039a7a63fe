/-
  The law's memory, phase by phase.
-/
import Derived.Test.Qxb6617606aGrow
import Derived.Below
namespace Go.Proofs.Qxb6617606a
open Go.RowKit Go.Deep

/-- The slice that came in: its elements, the numbers z. -/
def Row0 (w : World) (a : Option Addr) (n : Nat) (z : Nat → Int) : Prop :=
  n = 0 ∨ ∃ b off, a = some ⟨b, off, none⟩ ∧ b < w.heap.size ∧ ∀ k, k < n → w.cell? ⟨b, off + k, none⟩ = some (.int .u8 (z k))

/-- Two rows of the law's own: what Grow gave, and 'full'. -/
structure S (w : World) (B C : Nat) (f : Nat → Value) (c : Nat) (g : Nat → Value) (wr : World) : Prop where
  bel : Below w.heap.size w wr
  r1 : wr.rowIs B 5 C f
  rF : wr.rowIs w.heap.size 5 c g

theorem below_drewN {n : Nat} {w wr : World} (h : Below n w wr) (m : Nat) : Below n w (wr.drewN m) := ⟨h.os, h.tape, h.output, h.size, h.block⟩
theorem S.drewN {w wr : World} {B C c : Nat} {f g : Nat → Value} (h : S w B C f c g wr) (m : Nat) : S w B C f c g (wr.drewN m) := ⟨below_drewN h.bel m, h.r1, h.rF⟩

/-- Three rows: what the second Grow gave, what the first gave, 'full'. -/
structure S3 (w : World) (D E : Nat) (e : Nat → Value) (B C : Nat) (f : Nat → Value) (c : Nat) (g : Nat → Value) (wr : World) : Prop where
  s : S w B C f c g wr
  r2 : wr.rowIs D 5 E e
theorem S3.drewN {w wr : World} {D E B C c : Nat} {e f g : Nat → Value} (h : S3 w D E e B C f c g wr) (m : Nat) : S3 w D E e B C f c g (wr.drewN m) := ⟨h.s.drewN m, h.r2⟩

/-- The old cells of the slice that came in, read behind. -/
theorem Row0.later {w wr : World} {a : Option Addr} {n : Nat} {z : Nat → Int} (h : Row0 w a n z) (hb : Below w.heap.size w wr) {k : Nat} (hk : k < n) :
    ∃ b off, a = some ⟨b, off, none⟩ ∧ b < w.heap.size ∧ wr.cell? ⟨b, off + k, none⟩ = some (.int .u8 (z k)) := by
  rcases h with h | ⟨b, off, rfl, hlt, hc⟩
  · omega
  · refine ⟨b, off, rfl, hlt, ?_⟩
    have h1 := hb.block b hlt
    have h2 := hc k hk
    simp only [World.cell?] at h2 ⊢
    rw [h1]
    exact h2

/-- The row of the copies. -/
structure M1 (w : World) (n k : Nat) (z : Nat → Int) (wr : World) : Prop where
  bel : Below w.heap.size w wr
  row : wr.rowIs w.heap.size 5 n (fun j => if j < k then .int .u8 (z j) else .int .u8 0)

theorem M1.start (w : World) (n : Nat) (z : Nat → Int) : M1 w n 0 z (w.alloc (.cells (madeCells #[.int .u8 0] n) 5)) :=
  ⟨(Below.refl _ _).alloc (Nat.le_refl _) _, (World.rowIs_made _ _ _ _).congr (fun j _ => by simp)⟩

theorem M1.step {w wr : World} {n k : Nat} {z : Nat → Int} (h : M1 w n k z wr) : M1 w n (k + 1) z (wr.setCell ⟨w.heap.size, k, none⟩ (.int .u8 (z k))) :=
  ⟨h.bel.setCell (Nat.le_refl _) _, (h.row.set k _).congr (fun j _ => by
    by_cases e : j = k
    · subst e; simp
    · have : (j < k + 1) = (j < k) := by simp; omega
      simp only [if_neg e, this])⟩

theorem M1.done {w wr : World} {n : Nat} {z : Nat → Int} (h : M1 w n n z wr) : S w w.heap.size n (fun j => .int .u8 (z j)) n (fun j => .int .u8 (z j)) wr :=
  have h1 := h.row.congr (g := fun j => .int .u8 (z j)) (fun j hj => by simp [hj])
  ⟨h.bel, h1, h1⟩

/-- A store into the row, and the old value back: the row as it was. -/
theorem rowIs_back {w : World} {b t n k : Nat} {f : Nat → Value} {x y : Value} (h : w.rowIs b t n f) (hy : y = f k) : ((w.setCell ⟨b, k, none⟩ x).setCell ⟨b, k, none⟩ y).rowIs b t n f :=
  ((h.set k x).set k y).congr (fun j _ => by
    by_cases e : j = k
    · subst e; simp [hy]
    · simp [e])

theorem S.back {w wr : World} {c : Nat} {f : Nat → Value} {x y : Value} (h : S w w.heap.size c f c f wr) (d : Nat) (hy : y = f 0 := by rfl) : S w w.heap.size c f c f (((wr.setCell ⟨w.heap.size, 0, none⟩ x).drewN d).setCell ⟨w.heap.size, 0, none⟩ y) :=
  have h1 : (((wr.setCell ⟨w.heap.size, 0, none⟩ x).drewN d).setCell ⟨w.heap.size, 0, none⟩ y).rowIs w.heap.size 5 c f := rowIs_back (x := x) h.r1 hy
  ⟨(below_drewN (h.bel.setCell (Nat.le_refl _) _) d).setCell (Nat.le_refl _) _, h1, h1⟩

/-- The same where what Grow gave is another row. -/
theorem S.back2 {w wr : World} {B C c : Nat} {f g : Nat → Value} {x y : Value} (h : S w B C f c g wr) (hne : B ≠ w.heap.size) (d : Nat) (hy : y = g 0 := by rfl) : S w B C f c g (((wr.setCell ⟨w.heap.size, 0, none⟩ x).drewN d).setCell ⟨w.heap.size, 0, none⟩ y) :=
  ⟨(below_drewN (h.bel.setCell (Nat.le_refl _) _) d).setCell (Nat.le_refl _) _,
    show (((wr.setCell ⟨w.heap.size, 0, none⟩ x).drewN d).setCell ⟨w.heap.size, 0, none⟩ y).rowIs B 5 C f from World.rowIs.setOther (show ((wr.setCell ⟨w.heap.size, 0, none⟩ x).drewN d).rowIs B 5 C f from h.r1.setOther hne x) hne y, rowIs_back (x := x) h.rF hy⟩

/-- The second Grow moved 'full' itself. -/
theorem S3.ofA {w wr w2 : World} {l c E : Nat} {z : Nat → Int} (h : S w w.heap.size c (fun j => .int .u8 (z j)) c (fun j => .int .u8 (z j)) wr) (hG : Gw wr w.heap.size c wr.heap.size E l z w2) :
    S3 w wr.heap.size E (fun j => if j < l then .int .u8 (z j) else .int .u8 0) w.heap.size c (fun _ => .int .u8 0) c (fun _ => .int .u8 0) w2 :=
  ⟨⟨h.bel.grown hG.gr h.bel.size (fun k e => by have := Option.some.inj e; omega), hG.rb, hG.rb⟩, hG.rg⟩

/-- The first Grow moved 'full'. -/
theorem S.ofA {w wr w2 : World} {l c E : Nat} {z : Nat → Int} (h : S w w.heap.size c (fun j => .int .u8 (z j)) c (fun j => .int .u8 (z j)) wr) (hG : Gw wr w.heap.size c wr.heap.size E l z w2) :
    S w wr.heap.size E (fun j => if j < l then .int .u8 (z j) else .int .u8 0) c (fun _ => .int .u8 0) w2 :=
  ⟨(S3.ofA h hG).s.bel, hG.rg, hG.rb⟩

/-- Both moved. -/
theorem S3.ofB {w wr w2 : World} {l B C c E : Nat} {z : Nat → Int} (h : S w B C (fun j => if j < l then .int .u8 (z j) else .int .u8 0) c (fun _ => .int .u8 0) wr) (hne : B ≠ w.heap.size) (hB : w.heap.size ≤ B) {z' : Nat → Int} (hz : ∀ j, j < l → z' j = z j) (hG : Gw wr B C wr.heap.size E l z' w2) :
    S3 w wr.heap.size E (fun j => if j < l then .int .u8 (z j) else .int .u8 0) B C (fun _ => .int .u8 0) c (fun _ => .int .u8 0) w2 :=
  ⟨⟨h.bel.grown hG.gr h.bel.size (fun k e => by have := Option.some.inj e; omega), hG.rb, h.rF.of_block (hG.gr.block _ h.rF.lt (by intro e; exact hne (Option.some.inj e).symm))⟩, hG.rg.congr (fun j _ => by
    by_cases e : j < l
    · simp only [if_pos e, hz j e]
    · simp only [if_neg e])⟩

/-- The cut row's numbers. -/
def cutz (l : Nat) (z : Nat → Int) (j : Nat) : Int := if j < l then z j else 0
theorem rowIs_cutz {w : World} {b C l : Nat} {z : Nat → Int} (h : w.rowIs b 5 C (fun j => if j < l then .int .u8 (z j) else .int .u8 0)) : w.rowIs b 5 C (fun j => .int .u8 (cutz l z j)) :=
  h.congr (fun j _ => by unfold cutz; by_cases e : j < l <;> simp [e])

end Go.Proofs.Qxb6617606a
