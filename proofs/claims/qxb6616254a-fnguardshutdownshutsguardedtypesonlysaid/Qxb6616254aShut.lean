/-
  shutDown and ZZshutDown: every status but Inactive turns to Shut; 'shut' turns true; nothing outside the guard's block turns.
-/
import Derived.Test.Qxb6616254aGets
import Derived.Maps.AppendAt
namespace Go.Proofs.Qxb6616254a
open Go.RowKit

theorem addr_ne {g a b : Nat} (h : a ≠ b) : (⟨g, a, none⟩ : Addr) ≠ ⟨g, b, none⟩ := by intro e; cases e; exact h rfl

theorem cell_other {w : World} {g a b : Nat} {v : Value} (h : a ≠ b) : (w.setCell ⟨g, a, none⟩ v).cell? ⟨g, b, none⟩ = w.cell? ⟨g, b, none⟩ := World.cell?_setCell_other _ _ _ _ (addr_ne h)
theorem cell_same {w : World} {a : Addr} {u v : Value} (h : w.cell? a = some u) : (w.setCell a v).cell? a = some v := World.cell?_setCell_same _ _ _ h

theorem grown_setCell {w w' : World} {g o : Nat} (h : w.grownBy w' (some g)) (v : Value) : w.grownBy (w'.setCell ⟨g, o, none⟩ v) (some g) :=
  ⟨h.os, h.tape, h.output, Nat.le_trans h.size (by simp [World.setCell]), fun k hk hne => by
    rw [Below.heap_setCell _ _ _ _ (by intro e; exact hne (by rw [e]))]; exact h.block k hk hne⟩

theorem Grd.setSt {w : World} {g k : Nat} {up lo st : Nat → Int} {sh : Bool} {act ntf : Int} (h : Grd w g up lo st sh act ntf) (s : Int) :
    Grd (w.setCell ⟨g, 7 + k * 7 + 2, none⟩ (.int .i64 s)) g up lo (fun j => if j = k then s else st j) sh act ntf := by
  refine ⟨?_, ?_, fun j hj => ?_, fun j hj => ?_, fun j hj => ?_, fun j hj => ?_, fun j hj => ?_, fun j hj => ?_, fun j hj => ?_, ?_, fun o => ?_⟩
  · rw [cell_other (by omega)]; exact h.act
  · rw [cell_other (by omega)]; exact h.ntf
  · rw [cell_other (by omega)]; exact h.up j hj
  · rw [cell_other (by omega)]; exact h.lo j hj
  · by_cases e : j = k
    · subst e
      rw [cell_same (h.st j hj), if_pos rfl]
    · rw [cell_other (by omega), if_neg e]; exact h.st j hj
  · rw [cell_other (by omega)]; exact h.lv j hj
  · rw [cell_other (by omega)]; exact h.tot j hj
  · rw [cell_other (by omega)]; exact h.sto j hj
  · rw [cell_other (by omega)]; exact h.hi j hj
  · by_cases e : (35 : Nat) = 7 + k * 7 + 2
    · omega
    · rw [cell_other (by omega)]; exact h.sh
  · rw [World.frozen?_setCell]; exact h.fr o

theorem Grd.setSh {w : World} {g : Nat} {up lo st : Nat → Int} {sh : Bool} {act ntf : Int} (h : Grd w g up lo st sh act ntf) (s : Bool) :
    Grd (w.setCell ⟨g, 35, none⟩ (.bool s)) g up lo st s act ntf := by
  refine ⟨?_, ?_, fun j hj => ?_, fun j hj => ?_, fun j hj => ?_, fun j hj => ?_, fun j hj => ?_, fun j hj => ?_, fun j hj => ?_, ?_, fun o => ?_⟩
  · rw [cell_other (by omega)]; exact h.act
  · rw [cell_other (by omega)]; exact h.ntf
  · rw [cell_other (by omega)]; exact h.up j hj
  · rw [cell_other (by omega)]; exact h.lo j hj
  · rw [cell_other (by omega)]; exact h.st j hj
  · rw [cell_other (by omega)]; exact h.lv j hj
  · rw [cell_other (by omega)]; exact h.tot j hj
  · rw [cell_other (by omega)]; exact h.sto j hj
  · rw [cell_other (by omega)]; exact h.hi j hj
  · rw [cell_same h.sh]
  · rw [World.frozen?_setCell]; exact h.fr o

theorem Grd.setAct {w : World} {g : Nat} {up lo st : Nat → Int} {sh : Bool} {act ntf : Int} (h : Grd w g up lo st sh act ntf) (s : Int) :
    Grd (w.setCell ⟨g, 2, none⟩ (.int .i64 s)) g up lo st sh s ntf := by
  refine ⟨?_, ?_, fun j hj => ?_, fun j hj => ?_, fun j hj => ?_, fun j hj => ?_, fun j hj => ?_, fun j hj => ?_, fun j hj => ?_, ?_, fun o => ?_⟩
  · rw [cell_same h.act]
  · rw [cell_other (by omega)]; exact h.ntf
  · rw [cell_other (by omega)]; exact h.up j hj
  · rw [cell_other (by omega)]; exact h.lo j hj
  · rw [cell_other (by omega)]; exact h.st j hj
  · rw [cell_other (by omega)]; exact h.lv j hj
  · rw [cell_other (by omega)]; exact h.tot j hj
  · rw [cell_other (by omega)]; exact h.sto j hj
  · rw [cell_other (by omega)]; exact h.hi j hj
  · rw [cell_other (by omega)]; exact h.sh
  · rw [World.frozen?_setCell]; exact h.fr o

theorem Grd.setNtf {w : World} {g : Nat} {up lo st : Nat → Int} {sh : Bool} {act ntf : Int} (h : Grd w g up lo st sh act ntf) (s : Int) :
    Grd (w.setCell ⟨g, 3, none⟩ (.int .i64 s)) g up lo st sh act s := by
  refine ⟨?_, ?_, fun j hj => ?_, fun j hj => ?_, fun j hj => ?_, fun j hj => ?_, fun j hj => ?_, fun j hj => ?_, fun j hj => ?_, ?_, fun o => ?_⟩
  · rw [cell_other (by omega)]; exact h.act
  · rw [cell_same h.ntf]
  · rw [cell_other (by omega)]; exact h.up j hj
  · rw [cell_other (by omega)]; exact h.lo j hj
  · rw [cell_other (by omega)]; exact h.st j hj
  · rw [cell_other (by omega)]; exact h.lv j hj
  · rw [cell_other (by omega)]; exact h.tot j hj
  · rw [cell_other (by omega)]; exact h.sto j hj
  · rw [cell_other (by omega)]; exact h.hi j hj
  · rw [cell_other (by omega)]; exact h.sh
  · rw [World.frozen?_setCell]; exact h.fr o

/-- The statuses alone are read off; two functions that agree below four serve alike. -/
theorem Grd.st_congr {w : World} {g : Nat} {up lo st st' : Nat → Int} {sh : Bool} {act ntf : Int} (h : Grd w g up lo st sh act ntf) (e : ∀ j, j < 4 → st j = st' j) : Grd w g up lo st' sh act ntf :=
  { h with st := fun j hj => by rw [h.st j hj, e j hj] }

/-- What shutDown makes of a status. -/
def shutOf (s : Int) : Int := if s = 1 then 1 else 5

/-- The statuses behind k rounds. -/
def stK (st : Nat → Int) (k : Nat) : Nat → Int := fun j => if j < k then shutOf (st j) else st j

set_option maxHeartbeats 400000 in
theorem shutDown_any (g : Nat) (up lo st : Nat → Int) (sh : Bool) (act ntf : Int) (w : World) (hG : Grd w g up lo st sh act ntf) :
    Calls Try.prog 20 #[.pointer (some ⟨g, 0, none⟩)] w fun e w' => e = .returned (.tuple #[]) ∧ Grd w' g up lo (fun k => shutOf (st k)) true act ntf ∧ w.grownBy w' (some g) := by
  have c35 := hG.sh
  have f35 := hG.fr 35
  go_enter Try.func20, Try.ntmps20
  go_wp2
  go_loopw [7] (fun i wr => ∃ k : Nat, k ≤ 4 ∧ i = .int .i64 k ∧ Grd wr g up lo (stK st k) true act ntf ∧ w.grownBy wr (some g)) (fun i _ => 4 - (intOf i).toNat)
  case atStart =>
    refine ⟨0, by omega, rfl, (hG.setSh true).st_congr (fun j _ => by simp [stK]), grown_setCell (World.grownBy.refl _ _) _⟩
  case round =>
    obtain ⟨k, hk, rfl, hR, hgr⟩ := hrel
    clear c35 f35
    by_cases hlt : k < 4
    · have c0 := hR.st k hlt
      have f0 := hR.fr (7 + k * 7 + 2)
      have e0 : stK st k k = st k := by simp [stK]
      rw [e0] at c0
      have HE : Hid (stK st k k = st k) := e0
      clear e0
      by_cases hs : st k = 1
      · rw [hs] at c0
        have HS : Hid (st k = 1) := hs
        clear hs
        go_wp2
        go_roundw
        case rel => exact ⟨k + 1, by omega, by go_num, hR.st_congr (fun j _ => by
          unfold stK
          by_cases e : j = k
          · subst e; simp [shutOf, HS.out]
          · have : (j < k + 1) = (j < k) := by simp; omega
            simp only [this]), hgr⟩
        case measure => simp [intOf]; omega
      · have hs' : (st k != 1) = true := by simpa using hs
        have HS : Hid (st k ≠ 1) := hs
        clear hs
        go_wp2
        go_roundw
        case rel => exact ⟨k + 1, by omega, by go_num, (hR.setSt (k := k) 5).st_congr (fun j _ => by
          unfold stK
          by_cases e : j = k
          · subst e; simp [shutOf, HS.out]
          · have : (j < k + 1) = (j < k) := by simp; omega
            simp only [this, if_neg e]), grown_setCell hgr _⟩
        case measure => simp [intOf]; omega
    · obtain rfl : k = 4 := by omega
      go_wp2
      go_end0
      exact ⟨rfl, hR.st_congr (fun j hj => by simp [stK, hj]), hgr⟩

set_option maxHeartbeats 400000 in
theorem zzShutDown_any (g : Nat) (up lo st : Nat → Int) (sh : Bool) (act ntf : Int) (w : World) (hG : Grd w g up lo st sh act ntf) :
    Calls Try.prog 9 #[.pointer (some ⟨g, 0, none⟩)] w fun e w' => e = .returned (.tuple #[]) ∧ Grd w' g up lo (fun k => shutOf (st k)) true act ntf ∧ w.grownBy w' (some g) := by
  go_enter Try.func9, Try.ntmps9
  go_wp2_with (go_at_call 20; refine (shutDown_any g up lo st sh act ntf _ hG).mono ?_; rintro e w' ⟨rfl, hG', hgr⟩)
  go_end0
  exact ⟨rfl, hG', hgr⟩

end Go.Proofs.Qxb6616254a
