/-
  Move, Grow and the bound on total length: walked.
-/
import Derived.Test.Qxb6617606aRows
import Derived.WalkKit
import Derived.WalkSpells
import Derived.WalkLawsBesides
import Derived.Deep.OwnRows
import Derived.Deep.Draws
import Derived.Lib.SliceRun
namespace Go.Proofs.Qxb6617606a
open Go.RowKit Go.Deep

theorem hid {p : Prop} (h : p) : Hid p := h
theorem Try.info5 : (Try.prog.info? 5).map (fun i => (i.zero, i.size, i.bytes)) = some (some (.int .u8 0), 1, 1) := by kernel_rfl

/-- Two rows apart: the one that Move writes, the one that it reads. -/
structure Mv (w : World) (d cd s cs : Nat) (fd fs : Nat → Value) (W : World) : Prop where
  rd : W.rowIs d 5 cd fd
  rs : W.rowIs s 5 cs fs
  gr : w.grownBy W (some d)

set_option maxHeartbeats 400000 in
theorem move_any (d l cd s cs : Nat) (fd : Nat → Value) (fs : Nat → Int) (w : World) (hne : d ≠ s) (hl : l ≤ cd) (hls : l ≤ cs) (hcd : cd ≤ 16777216) (hd : w.rowIs d 5 cd fd) (hs : w.rowIs s 5 cs (fun i => .int .u8 (fs i))) :
    Calls Try.prog 6 #[.slice (some ⟨d, 0, none⟩) l cd, .slice (some ⟨s, 0, none⟩) l cs] w fun e w' => e = .returned (.tuple #[]) ∧ Mv w d cd s cs (fun i => if i < l then .int .u8 (fs i) else fd i) (fun i => .int .u8 (fs i)) w' := by
  go_enter Try.func6, Try.ntmps6
  go_wp2
  go_loopw [7] (fun i wr => ∃ k : Nat, k ≤ l ∧ i = .int .i64 k ∧ Mv w d cd s cs (fun i => if i < k then .int .u8 (fs i) else fd i) (fun i => .int .u8 (fs i)) wr) (fun i _ => l - (intOf i).toNat)
  case atStart => exact ⟨0, by omega, rfl, ⟨hd.congr (fun i _ => by simp), hs, World.grownBy.refl _ _⟩⟩
  case round =>
    obtain ⟨k, hk, rfl, hM⟩ := hrel
    by_cases hlt : k < l
    · have c0 := hM.rs.cell (i := k) (by omega)
      have d0 := hM.rd.cell (i := k) (by omega)
      have f0 := hM.rd.frozen k
      have HN := hid (show Mv w d cd s cs (fun i => if i < k + 1 then .int .u8 (fs i) else fd i) (fun i => .int .u8 (fs i)) (wr.setCell ⟨d, k, none⟩ (.int .u8 (fs k))) from
        ⟨(hM.rd.set k _).congr (fun i _ => by
          by_cases e : i = k
          · subst e; simp
          · have : (i < k + 1) = (i < k) := by simp; omega
            simp only [if_neg e, this]), hM.rs.setOther (fun e => hne e.symm) _, ⟨hM.gr.os, hM.gr.tape, hM.gr.output, Nat.le_trans hM.gr.size (by simp [World.setCell]), fun b hb hx => by
          rw [Below.heap_setCell _ _ _ _ (by intro e; exact hx (by rw [e]))]; exact hM.gr.block b hb hx⟩⟩)
      clear hM hd hs
      go_wp2
      go_roundw
      case rel => exact ⟨k + 1, by omega, by go_num, HN.out⟩
      case measure => simp [intOf]; omega
    · obtain rfl : k = l := by omega
      go_wp2
      go_end0
      exact ⟨rfl, hM⟩

set_option maxHeartbeats 400000 in
theorem zzBytes_any (a0 : Option Addr) (n0 c0 : Nat) (x y z : Int) (w : World) :
    Calls Try.prog 4 #[.slice a0 n0 c0, .int .i64 x, .int .i64 y, .int .i64 z] w fun e w' => e = .returned (.bool (decide (n0 ≤ 1048576))) ∧ w' = w := by
  by_cases h : n0 ≤ 1048576
  · go_enter Try.func4, Try.ntmps4
    go_wp2
    go_ret
    exact ⟨by simp [h], rfl⟩
  · go_enter Try.func4, Try.ntmps4
    go_wp2
    go_ret
    exact ⟨by simp [h], rfl⟩

theorem zero5 (w : World) : (zeroValue 5).run Try.prog w = .ok (.int .u8 0) w := by kernel_rfl

/-- What 'clear' leaves of a row. -/
def wiped (W : World) (b n : Nat) : World := W.setCells b 0 (List.replicate n (.int .u8 0))

theorem setCells_rowIs (b t n : Nat) (z : Value) : ∀ (m o : Nat) (W : World) (f : Nat → Value), W.rowIs b t n f → (W.setCells b o (List.replicate m z)).rowIs b t n (fun j => if o ≤ j ∧ j < o + m then z else f j)
  | 0, o, W, f, h => h.congr (fun j _ => by rw [if_neg (by omega)])
  | m + 1, o, W, f, h => by
    have h1 := setCells_rowIs b t n z m (o + 1) (W.setCell ⟨b, o, none⟩ z) _ (h.set o z)
    refine World.rowIs.congr h1 (fun j _ => ?_)
    by_cases e : j = o
    · subst e
      rw [if_neg (by omega), if_pos rfl, if_pos (by omega)]
    · by_cases e2 : o + 1 ≤ j ∧ j < o + 1 + m
      · rw [if_pos e2, if_pos (by omega)]
      · rw [if_neg e2, if_neg e, if_neg (by omega)]

theorem setCells_grown (b : Nat) : ∀ (vs : List Value) (o : Nat) (W : World), W.grownBy (W.setCells b o vs) (some b)
  | [], _, W => World.grownBy.refl W _
  | v :: vs, o, W => by
    have h1 : W.grownBy (W.setCell ⟨b, o, none⟩ v) (some b) := ⟨rfl, rfl, rfl, by simp [World.setCell], fun k _ hk => Below.heap_setCell _ _ _ _ (by intro e; exact hk (by rw [e]))⟩
    have h2 := setCells_grown b vs (o + 1) (W.setCell ⟨b, o, none⟩ v)
    exact ⟨h2.os.trans h1.os, h2.tape.trans h1.tape, h2.output.trans h1.output, Nat.le_trans h1.size h2.size, fun k hk hne => (h2.block k (Nat.lt_of_lt_of_le hk h1.size) hne).trans (h1.block k hk hne)⟩

theorem wiped_row {W : World} {b n : Nat} {f : Nat → Value} (h : W.rowIs b 5 n f) : (wiped W b n).rowIs b 5 n (fun _ => .int .u8 0) :=
  (setCells_rowIs b 5 n (.int .u8 0) n 0 W f h).congr (fun j hj => if_pos (by omega))

theorem run_clear (b n : Nat) (f : Nat → Value) (ty : TypeId) (W : World) (h : W.rowIs b 5 n f) : (Builtin.clear_ #[22] ty #[.slice (some ⟨b, 0, none⟩) n n]).run Try.prog W = .ok (.tuple #[]) (wiped W b n) := by
  by_cases hn : 0 < n
  · have h1 := Lib.run_clear_slice (P := Try.prog) W 22 5 ty (.int .u8 0) Try.underlying22 zero5 rfl rfl b 0 n n hn (fun j hj => by rw [show 0 + j = j by omega, h.cell hj]; rfl) (fun j _ => h.frozen _)
    exact h1
  · obtain rfl : n = 0 := by omega
    simp [Builtin.clear_, run_underlying Try.underlying22, wiped, World.setCells]

/-- Room enough: the slice itself. -/
theorem grow_stay (b l cp : Nat) (n : Int) (w : World) (hl : l ≤ cp) (hc : cp ≤ 4194304) (hn : n ≤ (cp : Int) - l) :
    Calls Try.prog 5 #[.slice (some ⟨b, 0, none⟩) l cp, .int .i64 n] w fun e w' => e = .returned (.slice (some ⟨b, 0, none⟩) l cp) ∧ w' = w := by
  go_enter Try.func5, Try.ntmps5
  go_wp2
  go_ret
  exact ⟨rfl, rfl⟩

/-- The new capacity. -/
def newCap (cp l n : Nat) : Nat := max (max (2 * cp) (l + n)) 64

/-- What Grow leaves where it moves: the new row g, the old row b wiped. -/
structure Gw (w : World) (b cp g cg l : Nat) (fs : Nat → Int) (W : World) : Prop where
  rg : W.rowIs g 5 cg (fun i => if i < l then .int .u8 (fs i) else .int .u8 0)
  rb : W.rowIs b 5 cp (fun _ => .int .u8 0)
  gr : w.grownBy W (some b)

theorem gw_of {w w' : World} {b cp cg l : Nat} {fs : Nat → Int} {o : Obj} (hne : b ≠ w.heap.size) (hM : Mv (w.alloc o) w.heap.size cg b cp (fun i => if i < l then .int .u8 (fs i) else .int .u8 0) (fun i => .int .u8 (fs i)) w') :
    Gw w b cp w.heap.size cg l fs (wiped w' b cp) := by
  have hg := setCells_grown b (List.replicate cp (.int .u8 0)) 0 w'
  refine ⟨hM.rd.of_block (hg.block _ hM.rd.lt (by intro e; exact hne (Option.some.inj e).symm)), wiped_row hM.rs, ⟨hg.os.trans hM.gr.os, hg.tape.trans hM.gr.tape, hg.output.trans hM.gr.output, Nat.le_trans (Nat.le_of_lt hM.rd.lt) hg.size, fun k hk hx => ?_⟩⟩
  have h1 : k < w'.heap.size := Nat.lt_trans hk hM.rd.lt
  have h2 : k < (w.alloc o).heap.size := by simp; omega
  exact (hg.block k h1 hx).trans ((hM.gr.block k h2 (by intro e; have := Option.some.inj e; omega)).trans (blk_alloc_lt _ _ _ hk))

set_option maxHeartbeats 400000 in
theorem grow_move (b l cp n : Nat) (fs : Nat → Int) (w : World) (hl : l ≤ cp) (hc : cp ≤ 4194304) (hn : cp < l + n) (hn2 : n ≤ 65536) (hb : w.rowIs b 5 cp (fun i => .int .u8 (fs i))) :
    Calls Try.prog 5 #[.slice (some ⟨b, 0, none⟩) l cp, .int .i64 n] w fun e w' => e = .returned (.slice (some ⟨w.heap.size, 0, none⟩) l (newCap cp l n)) ∧ Gw w b cp w.heap.size (newCap cp l n) l fs w' := by
  obtain ⟨i5, hi5, hz0, hz1, hz2⟩ := info_parts Try.info5
  have hb2 : newCap cp l n ≤ 16777216 := by unfold newCap; omega
  have hb3 : l ≤ newCap cp l n := by unfold newCap; omega
  have hlt : b < w.heap.size := hb.lt
  have hmk := hid (show ∀ (W : World) (X : Int), X = (newCap cp l n : Nat) → (Instr.makeSlice 22 (.int .i64 l) (.int .i64 X)).run Try.prog W = .ok (.slice (some ⟨W.heap.size, 0, none⟩) l (newCap cp l n)) (W.alloc (.cells (madeCells #[.int .u8 0] (newCap cp l n)) 5)) from fun W X hX => by
    subst hX
    have h := run_make (P := Try.prog) W 22 5 i5 _ Try.underlying22 hi5 hz0 .i64 .i64 l (newCap cp l n) (by omega) (by omega) (by rw [hz2]; omega) (by omega)
    simpa [hz1, Value.cells] using h)
  have hA := hid (show (w.alloc (.cells (madeCells #[.int .u8 0] (newCap cp l n)) 5)).rowIs w.heap.size 5 (newCap cp l n) (fun _ => .int .u8 0) from World.rowIs_made _ _ _ _)
  have hB := hid (show (w.alloc (.cells (madeCells #[.int .u8 0] (newCap cp l n)) 5)).rowIs b 5 cp (fun i => .int .u8 (fs i)) from hb.alloc _)
  go_enter Try.func5, Try.ntmps5
  go_wp2_with fail
  all_goals
    rw [hmk.out _ _ (by unfold newCap; omega)]
    go_wp2_with fail
    refine (move_any _ _ _ _ _ _ _ _ (by omega) hb3 hl hb2 hA.out hB.out).mono ?_
    rintro e w' ⟨rfl, hM⟩
    have hcl := fun ty => run_clear b cp _ ty w' hM.rs
    go_wp2
    go_ret
    exact ⟨rfl, gw_of (by omega) hM⟩

end Go.Proofs.Qxb6617606a
