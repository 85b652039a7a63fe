/-
  zzBuildThresholds: the map of thresholds that it makes.
-/
import Derived.Test.Qxb6616254aGets
import Derived.Maps.OwnSet
import Derived.RegionTactic
namespace Go.Proofs.Qxb6616254a
open Go.RowKit Go.Maps

/-- How an element (two thresholds) reads. -/
def thElem (v : Value) : Option (DataW Unit × List MemPlace) :=
  match v with
  | .agg cs => match cs.toList with
    | [.int .i64 a, .int .i64 b] => some (.agg [.lit (.int .i64 a), .lit (.int .i64 b)], [])
    | _ => none
  | _ => none
theorem thElem_mk (a b : Int) : thElem (.agg #[.int .i64 a, .int .i64 b]) = some (.agg [.lit (.int .i64 a), .lit (.int .i64 b)], []) := rfl
theorem agg_of {cs : Array Value} {l : List Value} (h : cs.toList = l) : cs = l.toArray := by cases cs; simp at h; simp [h]
theorem thElem_inv {v : Value} {a b : Int} {ps : List MemPlace} (h : thElem v = some (.agg [.lit (.int .i64 a), .lit (.int .i64 b)], ps)) : v = .agg #[.int .i64 a, .int .i64 b] := by
  unfold thElem at h
  split at h
  · split at h
    · rename_i hcs
      simp at h
      obtain ⟨⟨rfl, rfl⟩, _⟩ := h
      rw [agg_of hcs]
    · cases h
  · cases h

/-- What the map holds behind k rounds. -/
def Dat (L : Nat → Bool) (U V : Nat → Int) (k : Nat) (D : DataW Unit) : Prop :=
  ∀ j : Nat, j < 4 → has D (.int .i64 j) = (decide (j < k) && L j) ∧ (j < k → L j = true → ∀ z, D.atKey (.int .i64 j) z = .agg [.lit (.int .i64 (U j)), .lit (.int .i64 (V j))])

theorem Dat.zero (L : Nat → Bool) (U V : Nat → Int) : Dat L U V 0 (.map []) := fun j _ => ⟨by simp [has], fun h => by omega⟩

theorem Dat.put {L : Nat → Bool} {U V : Nat → Int} {k : Nat} {D : DataW Unit} (h : Dat L U V k D) (hk : L k = true) (hD : IsMap D) : Dat L U V (k + 1) (D.put (.int .i64 k) (.agg [.lit (.int .i64 (U k)), .lit (.int .i64 (V k))])) := by
  intro j hj
  obtain ⟨h1, h2⟩ := h j hj
  by_cases e : j = k
  · subst e
    exact ⟨by rw [has_put_same hD (k := .int .i64 j) trivial]; simp [hk], fun _ _ z => atKey_put_same hD (k := .int .i64 j) trivial _ z⟩
  · have hne : (Lit.int .i64 (j : Int)) ≠ (Lit.int .i64 (k : Int)) := by
      intro e'; simp at e'; omega
    refine ⟨?_, fun hlt hL z => ?_⟩
    · rw [has_put_other hne, h1]
      have : decide (j < k + 1) = decide (j < k) := by simp; omega
      rw [this]
    · rw [atKey_put_other hne]
      exact h2 (by omega) hL z

theorem Dat.skip {L : Nat → Bool} {U V : Nat → Int} {k : Nat} {D : DataW Unit} (h : Dat L U V k D) (hk : L k = false) : Dat L U V (k + 1) D := by
  intro j hj
  obtain ⟨h1, h2⟩ := h j hj
  by_cases e : j = k
  · subst e
    exact ⟨by rw [h1]; simp [hk], fun _ hL => by rw [hk] at hL; cases hL⟩
  · refine ⟨?_, fun hlt hL z => h2 (by omega) hL z⟩
    rw [h1]
    have : decide (j < k + 1) = decide (j < k) := by simp; omega
    rw [this]

theorem below4 (w : World) (A B C E : Obj) : Below w.heap.size w ((((w.alloc A).alloc B).alloc C).alloc E) := ((((Below.refl _ _).alloc (Nat.le_refl _) _).alloc (by simp) _).alloc (by simp; omega) _).alloc (by simp; omega) _

theorem law32 : Keyed Try.prog 32 := int_keyed Try.underlying32

/-- Three boxes, as zzBuildThresholds lays them. -/
theorem box_cells (w : World) (b0 b1 b2 b3 : Bool) (u0 u1 u2 u3 l0 l1 l2 l3 : Int) (o : Obj) (k : Nat) (hk : k < 4) :
    let W := (((w.alloc (.cells #[.bool b0, .bool b1, .bool b2, .bool b3] 23)).alloc (.cells #[.int .i64 u0, .int .i64 u1, .int .i64 u2, .int .i64 u3] 24)).alloc (.cells #[.int .i64 l0, .int .i64 l1, .int .i64 l2, .int .i64 l3] 24)).alloc o
    W.cell? ⟨w.heap.size, k, none⟩ = some (.bool (sel b0 b1 b2 b3 k)) ∧ W.cell? ⟨w.heap.size + 1, k, none⟩ = some (.int .i64 (sel u0 u1 u2 u3 k)) ∧ W.cell? ⟨w.heap.size + 2, k, none⟩ = some (.int .i64 (sel l0 l1 l2 l3 k)) := by
  obtain rfl | rfl | rfl | rfl : k = 0 ∨ k = 1 ∨ k = 2 ∨ k = 3 := by omega
  all_goals
    refine ⟨?_, ?_, ?_⟩ <;> simp [go_sem, sel]

set_option maxHeartbeats 400000 in
theorem build_any (b0 b1 b2 b3 : Bool) (u0 u1 u2 u3 l0 l1 l2 l3 : Int) (w : World) :
    Calls Try.prog 6 #[.agg #[.bool b0, .bool b1, .bool b2, .bool b3], .agg #[.int .i64 u0, .int .i64 u1, .int .i64 u2, .int .i64 u3], .agg #[.int .i64 l0, .int .i64 l1, .int .i64 l2, .int .i64 l3]] w fun e w' =>
      ∃ b D, e = .returned (.map (some b)) ∧ w.heap.size ≤ b ∧ w'.ownsMap Try.prog 32 thElem b 4 D ∧ Dat (sel b0 b1 b2 b3) (sel u0 u1 u2 u3) (sel l0 l1 l2 l3) 4 D ∧ Below w.heap.size w w' := by
  have hmm := @run_makeMap Try.prog
  have hbox := box_cells w b0 b1 b2 b3 u0 u1 u2 u3 l0 l1 l2 l3 (.map #[] 0)
  have HB := (show Hid _ from hbox)
  clear hbox
  go_enter Try.func6, Try.ntmps6
  go_wp2
  go_loopw [8] (fun i wr => ∃ k : Nat, k ≤ 4 ∧ i = .int .i64 k ∧ ∃ D, wr.ownsMap Try.prog 32 thElem (w.heap.size + 3) k D ∧ Dat (sel b0 b1 b2 b3) (sel u0 u1 u2 u3) (sel l0 l1 l2 l3) k D ∧ Below (w.heap.size + 3) ((((w.alloc (.cells #[.bool b0, .bool b1, .bool b2, .bool b3] 23)).alloc (.cells #[.int .i64 u0, .int .i64 u1, .int .i64 u2, .int .i64 u3] 24)).alloc (.cells #[.int .i64 l0, .int .i64 l1, .int .i64 l2, .int .i64 l3] 24)).alloc (.map #[] 0)) wr) (fun i _ => 4 - (intOf i).toNat)
  case atStart =>
    refine ⟨0, by omega, rfl, .map [], ?_, Dat.zero _ _ _, Below.refl _ _⟩
    have := World.ownsMap_made (((w.alloc (.cells #[.bool b0, .bool b1, .bool b2, .bool b3] 23)).alloc (.cells #[.int .i64 u0, .int .i64 u1, .int .i64 u2, .int .i64 u3] 24)).alloc (.cells #[.int .i64 l0, .int .i64 l1, .int .i64 l2, .int .i64 l3] 24)) Try.prog 32 thElem
    simpa using this
  case round =>
    obtain ⟨k, hk, rfl, D, hown, hdat, hbel⟩ := hrel
    by_cases hlt : k < 4
    · obtain ⟨c0, c1, c2⟩ := HB.out k hlt
      rw [← hbel.cell (p := ⟨w.heap.size, k, none⟩) (by simp)] at c0
      rw [← hbel.cell (p := ⟨w.heap.size + 1, k, none⟩) (by simp)] at c1
      rw [← hbel.cell (p := ⟨w.heap.size + 2, k, none⟩) (by simp)] at c2
      by_cases hb : sel b0 b1 b2 b3 k = true
      · rw [hb] at c0
        obtain ⟨w1, hrun, hown1, hgrow⟩ := hown.drew.update law32 Try.underlying27 (by unfold maxLen; omega) (key := .int .i64 k) (val := .agg #[.int .i64 (sel u0 u1 u2 u3 k), .int .i64 (sel l0 l1 l2 l3 k)]) (keyOf_int_mk Try.underlying32 (WalkArith.wf_i64 (by omega))) (thElem_mk _ _)
        go_wp2
        go_region
        all_goals
          go_wp2
          go_roundw
          case rel => exact ⟨k + 1, by omega, by go_num, _, hown1, hdat.put hb hown.isMap, hbel.drew.grown hgrow (by have := hown.lt; simp; omega) (fun j hj => by cases hj; exact Nat.le_refl _)⟩
          case measure => simp [intOf]; omega
      · have hb' : sel b0 b1 b2 b3 k = false := by simpa using hb
        rw [hb'] at c0
        go_wp2
        go_roundw
        case rel => exact ⟨k + 1, by omega, by go_num, D, hown.mono (by omega), hdat.skip hb', hbel⟩
        case measure => simp [intOf]; omega
    · obtain rfl : k = 4 := by omega
      go_wp2
      go_ret
      exact ⟨_, D, rfl, by omega, hown, hdat, (below4 _ _ _ _ _).trans (hbel.mono (by omega))⟩

end Go.Proofs.Qxb6616254a
