/-
  THE SMALL FUNCTIONS of seat b6616254a: the getters and setters of a guard, zzGuarded, NewMeter; the word 'Grd': what a guard's block holds.
-/
import Derived.Test.Qxb6616254aRows
import Derived.WalkKit
import Derived.WalkSpells
import Derived.WalkLawsBesides
namespace Go.Proofs.Qxb6616254a
open Go.RowKit

/-- The one of four that the number picks. -/
def sel {α : Type} (a b c d : α) : Nat → α
  | 0 => a
  | 1 => b
  | 2 => c
  | _ => d

/-- Is the type guarded? -/
def gB (b : Bool) (u : Int) : Bool := b && (u != 10000)

/-- WHAT A GUARD's BLOCK HOLDS: 56 cells; of them the action (2), the notify word (3), four states of seven cells each from cell 7 on, 'shut' (35). -/
structure Grd (w : World) (g : Nat) (up lo st : Nat → Int) (sh : Bool) (act ntf : Int) : Prop where
  act : w.cell? ⟨g, 2, none⟩ = some (.int .i64 act)
  ntf : w.cell? ⟨g, 3, none⟩ = some (.int .i64 ntf)
  up : ∀ k, k < 4 → w.cell? ⟨g, 7 + k * 7, none⟩ = some (.int .i64 (up k))
  lo : ∀ k, k < 4 → w.cell? ⟨g, 7 + k * 7 + 1, none⟩ = some (.int .i64 (lo k))
  st : ∀ k, k < 4 → w.cell? ⟨g, 7 + k * 7 + 2, none⟩ = some (.int .i64 (st k))
  lv : ∀ k, k < 4 → w.cell? ⟨g, 7 + k * 7 + 3, none⟩ = some (.int .i64 0)
  tot : ∀ k, k < 4 → w.cell? ⟨g, 7 + k * 7 + 4, none⟩ = some (.int .u64 0)
  sto : ∀ k, k < 4 → w.cell? ⟨g, 7 + k * 7 + 5, none⟩ = some (.int .u64 0)
  hi : ∀ k, k < 4 → w.cell? ⟨g, 7 + k * 7 + 6, none⟩ = some (.slice none 0 0)
  sh : w.cell? ⟨g, 35, none⟩ = some (.bool sh)
  fr : ∀ o, w.frozen? ⟨g, o, none⟩ = false

set_option maxHeartbeats 400000 in
theorem status_any (g k : Nat) (s : Int) (w : World) (hk : k < 4) (hc : w.cell? ⟨g, 7 + k * 7 + 2, none⟩ = some (.int .i64 s)) :
    Calls Try.prog 8 #[.pointer (some ⟨g, 0, none⟩), .int .i64 k] w fun e w' => e = .returned (.int .i64 s) ∧ w' = w := by
  go_enter Try.func8, Try.ntmps8
  go_wp2
  go_ret
  exact ⟨rfl, rfl⟩

set_option maxHeartbeats 400000 in
theorem storms_any (g k : Nat) (s : Int) (w : World) (hk : k < 4) (hc : w.cell? ⟨g, 7 + k * 7 + 5, none⟩ = some (.int .u64 s)) :
    Calls Try.prog 11 #[.pointer (some ⟨g, 0, none⟩), .int .i64 k] w fun e w' => e = .returned (.int .u64 s) ∧ w' = w := by
  go_enter Try.func11, Try.ntmps11
  go_wp2
  go_ret
  exact ⟨rfl, rfl⟩

set_option maxHeartbeats 400000 in
theorem suppressed_any (g k : Nat) (s : Int) (w : World) (hk : k < 4) (hc : w.cell? ⟨g, 7 + k * 7 + 4, none⟩ = some (.int .u64 s)) :
    Calls Try.prog 12 #[.pointer (some ⟨g, 0, none⟩), .int .i64 k] w fun e w' => e = .returned (.int .u64 s) ∧ w' = w := by
  go_enter Try.func12, Try.ntmps12
  go_wp2
  go_ret
  exact ⟨rfl, rfl⟩

set_option maxHeartbeats 400000 in
theorem level_any (g k : Nat) (s : Int) (w : World) (hk : k < 4) (hc : w.cell? ⟨g, 7 + k * 7 + 3, none⟩ = some (.int .i64 s)) :
    Calls Try.prog 13 #[.pointer (some ⟨g, 0, none⟩), .int .i64 k] w fun e w' => e = .returned (.int .i64 s) ∧ w' = w := by
  go_enter Try.func13, Try.ntmps13
  go_wp2
  go_ret
  exact ⟨rfl, rfl⟩

set_option maxHeartbeats 400000 in
theorem thresholds_any (g k : Nat) (u l : Int) (w : World) (hk : k < 4) (hg : g < w.heap.size) (hu : w.cell? ⟨g, 7 + k * 7, none⟩ = some (.int .i64 u)) (hl : w.cell? ⟨g, 7 + k * 7 + 1, none⟩ = some (.int .i64 l)) :
    Calls Try.prog 10 #[.pointer (some ⟨g, 0, none⟩), .int .i64 k] w fun e w' => e = .returned (.agg #[.int .i64 u, .int .i64 l]) ∧ Below w.heap.size w w' := by
  go_enter Try.func10, Try.ntmps10
  go_wp2
  exact bodyPost_ret (v := .agg #[.int .i64 u, .int .i64 l]) (by simp [results, Try.results10, go_sem]) rfl ⟨rfl, (Below.refl _ _).alloc (Nat.le_refl _) _⟩

set_option maxHeartbeats 400000 in
theorem shut_any (g : Nat) (s : Bool) (w : World) (hc : w.cell? ⟨g, 35, none⟩ = some (.bool s)) :
    Calls Try.prog 14 #[.pointer (some ⟨g, 0, none⟩)] w fun e w' => e = .returned (.bool s) ∧ w' = w := by
  go_enter Try.func14, Try.ntmps14
  go_wp2
  go_ret
  exact ⟨rfl, rfl⟩

set_option maxHeartbeats 400000 in
theorem action_any (g : Nat) (s : Int) (w : World) (hc : w.cell? ⟨g, 2, none⟩ = some (.int .i64 s)) :
    Calls Try.prog 17 #[.pointer (some ⟨g, 0, none⟩)] w fun e w' => e = .returned (.int .i64 s) ∧ w' = w := by
  go_enter Try.func17, Try.ntmps17
  go_wp2
  go_ret
  exact ⟨rfl, rfl⟩

set_option maxHeartbeats 400000 in
theorem notify_any (g : Nat) (s : Int) (w : World) (hc : w.cell? ⟨g, 3, none⟩ = some (.int .i64 s)) :
    Calls Try.prog 18 #[.pointer (some ⟨g, 0, none⟩)] w fun e w' => e = .returned (.int .i64 s) ∧ w' = w := by
  go_enter Try.func18, Try.ntmps18
  go_wp2
  go_ret
  exact ⟨rfl, rfl⟩

set_option maxHeartbeats 400000 in
theorem setAction_any (g : Nat) (s n : Int) (w : World) (hc : w.cell? ⟨g, 2, none⟩ = some (.int .i64 s)) (hf : w.frozen? ⟨g, 2, none⟩ = false) :
    Calls Try.prog 15 #[.pointer (some ⟨g, 0, none⟩), .int .i64 n] w fun e w' => e = .returned (.tuple #[]) ∧ w' = w.setCell ⟨g, 2, none⟩ (.int .i64 n) := by
  go_enter Try.func15, Try.ntmps15
  go_wp2
  go_end0
  exact ⟨rfl, rfl⟩

set_option maxHeartbeats 400000 in
theorem setNotify_any (g : Nat) (s n : Int) (w : World) (hc : w.cell? ⟨g, 3, none⟩ = some (.int .i64 s)) (hf : w.frozen? ⟨g, 3, none⟩ = false) :
    Calls Try.prog 16 #[.pointer (some ⟨g, 0, none⟩), .int .i64 n] w fun e w' => e = .returned (.tuple #[]) ∧ w' = w.setCell ⟨g, 3, none⟩ (.int .i64 n) := by
  go_enter Try.func16, Try.ntmps16
  go_wp2
  go_end0
  exact ⟨rfl, rfl⟩

theorem below2 (w : World) (A B : Obj) : Below w.heap.size w ((w.alloc A).alloc B) := ((Below.refl _ _).alloc (Nat.le_refl _) _).alloc (by simp) _

set_option maxHeartbeats 400000 in
theorem guarded_any (b0 b1 b2 b3 : Bool) (u0 u1 u2 u3 : Int) (w : World) (k : Nat) (hk : k < 4) :
    Calls Try.prog 7 #[.agg #[.bool b0, .bool b1, .bool b2, .bool b3], .agg #[.int .i64 u0, .int .i64 u1, .int .i64 u2, .int .i64 u3], .int .i64 k] w fun e w' => e = .returned (.bool (gB (sel b0 b1 b2 b3 k) (sel u0 u1 u2 u3 k))) ∧ Below w.heap.size w w' := by
  obtain rfl | rfl | rfl | rfl : k = 0 ∨ k = 1 ∨ k = 2 ∨ k = 3 := by omega
  · cases b0
    all_goals
      go_enter Try.func7, Try.ntmps7
      go_wp2
      go_ret
      exact ⟨by simp [gB, sel], below2 _ _ _⟩
  · cases b1
    all_goals
      go_enter Try.func7, Try.ntmps7
      go_wp2
      go_ret
      exact ⟨by simp [gB, sel], below2 _ _ _⟩
  · cases b2
    all_goals
      go_enter Try.func7, Try.ntmps7
      go_wp2
      go_ret
      exact ⟨by simp [gB, sel], below2 _ _ _⟩
  · cases b3
    all_goals
      go_enter Try.func7, Try.ntmps7
      go_wp2
      go_ret
      exact ⟨by simp [gB, sel], below2 _ _ _⟩

theorem Grd.below {w w' : World} {g B : Nat} {up lo st : Nat → Int} {sh : Bool} {act ntf : Int} (h : Grd w g up lo st sh act ntf) (hb : Below B w w') (hg : g < B) : Grd w' g up lo st sh act ntf := by
  have hc : ∀ o, w'.cell? ⟨g, o, none⟩ = w.cell? ⟨g, o, none⟩ := fun o => hb.cell (p := ⟨g, o, none⟩) hg
  have hf : ∀ o, w'.frozen? ⟨g, o, none⟩ = w.frozen? ⟨g, o, none⟩ := fun o => hb.frozen (p := ⟨g, o, none⟩) hg
  exact ⟨by rw [hc]; exact h.act, by rw [hc]; exact h.ntf, fun k hk => by rw [hc]; exact h.up k hk, fun k hk => by rw [hc]; exact h.lo k hk, fun k hk => by rw [hc]; exact h.st k hk, fun k hk => by rw [hc]; exact h.lv k hk,
    fun k hk => by rw [hc]; exact h.tot k hk, fun k hk => by rw [hc]; exact h.sto k hk, fun k hk => by rw [hc]; exact h.hi k hk, by rw [hc]; exact h.sh, fun o => by rw [hf]; exact h.fr o⟩

end Go.Proofs.Qxb6616254a
