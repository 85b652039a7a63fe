/-
  FnGrowTwiceKeepsBytesGivesRoomAndWipesWhatItLeaves: the row, from the two walks (LawA, LawB). The frame is the seat's own shell, its hole filled.
-/
import Derived.Test.Qxb6617606aLawA
import Derived.Test.Qxb6617606aLawB
import Derived.WalkKit
import Derived.ProofKit
import Derived.OpenShut
import Derived.ShutString
import Derived.ChangeOld
import Derived.Below
namespace Go.Proofs.Qxb6617606a.fnGrowTwiceKeepsBytesGivesRoomAndWipesWhatItLeaves
open Go.ChangeShapes Go.WideShapes Go.ChangeAt Go.RowKit
set_option linter.unusedVariables false

theorem own : ownKnob Try.prog.godebug = none := by kernel_rfl
theorem laidOut : laidOutB Try.prog = true := by kernel_rfl

/-- WHAT THE WALK IS TOLD OF A SLICE OF INTEGERS THAT CAME IN: it is nil; or it leads to a row of 'cap' cells, the numbers 'zs' (the first 'len' are its elements, the rest its spare room), each fitting its kind. -/
def IsRow (k : IntKind) (w : World) (a : Option Addr) (len cap : Nat) (zs : List Int) : Prop :=
  (a = none ∧ len = 0 ∧ cap = 0 ∧ zs = []) ∨
  ∃ x, a = some x ∧ len ≤ cap ∧ cap ≤ maxLen ∧ zs.length = cap ∧ (∀ i, i < zs.length → w.cell? (x.add i) = some (.int k (zs.getD i 0))) ∧ ∀ n ∈ zs, (Lit.int k n).wf = true

/-! ### STEP 1: THE WALK: the Go text returns true, AND WRITES NOTHING THAT WAS THERE: 'Below w.heap.size w w'' (Derived/Below.lean: '.refl', '.alloc', '.drew', '.setCell' at a new block, '.trans'). Open each 'IsRow' by 'rcases' AHEAD of 'go_enter'; part every test ahead of the walk. -/
set_option maxRecDepth 100000 in
theorem walk (a0 : Option Addr) (len0 cap0 : Nat) (z0 : List Int) (a1 : Int) (a2 : Int) (a3 : Int) (w : World) (w0 : IsRow .u8 w a0 len0 cap0 z0) (w1 : (Lit.int .i64 a1).wf = true) (w2 : (Lit.int .i64 a2).wf = true) (w3 : (Lit.int .i64 a3).wf = true) :
    Calls Try.prog 3 #[.slice a0 len0 cap0, .int .i64 a1, .int .i64 a2, .int .i64 a3] w fun e w' => e = .returned (.bool true) ∧ Below w.heap.size w w' := by
  have h0 : Row0 w a0 len0 (fun k => z0.getD k 0) := by
    rcases w0 with ⟨rfl, rfl, rfl, rfl⟩ | ⟨x, rfl, hl, hc, hz, hcell, _⟩
    · exact .inl rfl
    · by_cases h : len0 = 0
      · exact .inl h
      · obtain ⟨b, off, rfl, hc2⟩ := ints_at hcell (by omega)
        exact .inr ⟨b, off, rfl, World.block_lt_of_cell? w _ (hc2 0 (by omega)), fun k hk => hc2 k (by omega)⟩
  by_cases hn0 : len0 ≤ 1048576
  · by_cases hl0 : 0 ≤ a1
    · by_cases hl1 : a1 ≤ len0
      · by_cases hn : a2 ≤ 65536
        · by_cases hm : a3 ≤ 65536
          · obtain ⟨l, rfl⟩ : ∃ l : Nat, a1 = l := ⟨a1.toNat, by omega⟩
            by_cases hst : a2 ≤ (len0 : Int) - l
            · exact law_stay a0 len0 cap0 l a2 a3 _ w h0 hn0 (by omega) hn hm hst
            · obtain ⟨n, rfl⟩ : ∃ n : Nat, a2 = n := ⟨a2.toNat, by omega⟩
              exact law_move a0 len0 cap0 l n a3 _ w h0 hn0 (by omega) (by omega) hm (by omega)
          · go_enter Try.func3, Try.ntmps3
            go_wp2_with fail
            refine (zzBytes_any a0 len0 cap0 a1 a2 a3 w).mono ?_
            rintro e w' ⟨rfl, hw⟩
            obtain rfl := hw
            have g1 : decide (65536 < a2) = false := decide_eq_false (by omega)
            go_wp2
            go_ret
            exact ⟨rfl, Below.refl _ _⟩
        · go_enter Try.func3, Try.ntmps3
          go_wp2_with fail
          refine (zzBytes_any a0 len0 cap0 a1 a2 a3 w).mono ?_
          rintro e w' ⟨rfl, hw⟩
          obtain rfl := hw
          have g1 : decide (65536 < a2) = true := decide_eq_true (by omega)
          go_wp2
          go_ret
          exact ⟨rfl, Below.refl _ _⟩
      · go_enter Try.func3, Try.ntmps3
        go_wp2_with fail
        refine (zzBytes_any a0 len0 cap0 a1 a2 a3 w).mono ?_
        rintro e w' ⟨rfl, hw⟩
        obtain rfl := hw
        have g0 : decide (a1 < 0) = false := decide_eq_false (by omega)
        go_wp2
        go_ret
        exact ⟨rfl, Below.refl _ _⟩
    · go_enter Try.func3, Try.ntmps3
      go_wp2_with fail
      refine (zzBytes_any a0 len0 cap0 a1 a2 a3 w).mono ?_
      rintro e w' ⟨rfl, hw⟩
      obtain rfl := hw
      have g0 : decide (a1 < 0) = true := decide_eq_true (by omega)
      go_wp2
      go_ret
      exact ⟨rfl, Below.refl _ _⟩
  · go_enter Try.func3, Try.ntmps3
    go_wp2_with fail
    refine (zzBytes_any a0 len0 cap0 a1 a2 a3 w).mono ?_
    rintro e w' ⟨rfl, hw⟩
    obtain rfl := hw
    go_wp2
    go_ret
    exact ⟨rfl, Below.refl _ _⟩

/-! ### THE ROW's STEP: WRITTEN OUT: LEAVE IT -/
set_option maxRecDepth 100000 in
theorem lifted (os : Os) (started : os.Started) (H : Type) (enc : TypeId × Value → H) :
    ReturnsInHanded {} Try.checked os 3 .any (Rows.fnGrowTwiceKeepsBytesGivesRoomAndWipesWhatItLeavesSpec.pre6 enc Try.prog Try.f3 Rows.fnGrowTwiceKeepsBytesGivesRoomAndWipesWhatItLeavesRow.domain false) (Rows.fnGrowTwiceKeepsBytesGivesRoomAndWipesWhatItLeavesSpec.post enc Try.prog Try.f3 false true false false) := by
  refine returnsInHanded_of_change (C := Try.checked) own started (by kernel_rfl) Try.func3
    (ChangeSpec.witness6 (enc := enc) (C := Try.checked) false ⟨#[], #[.slice none 0 0, .int .i64 0, .int .i64 0, .int .i64 0], []⟩ 8 (by kernel_rfl) (by kernel_rfl) (by kernel_rfl) (by kernel_rfl)) ?_
  intro W base args ds gs before hval0 hW hcnd _
  have hval : ∀ (j : Nat) t v, Try.f3.params[j]? = some t → args[j]? = some v → Value.okWide Try.prog W .any base t v := hval0
  have hW' := hW
  obtain ⟨p, q, hA0, hV, rfl, hfz, hnd⟩ := hW
  have hA : DataW.TrodAll enc Try.prog W 0 (fun _ => true) true Try.f3.params.toList args.toList ds p := hA0
  rw [Try.params3] at hA hval
  obtain ⟨v0, vs0, d0, ds0, p0, q0, hargs, rfl, rfl, h0, r0⟩ := trodAll_cons hA
  obtain ⟨v1, vs1, d1, ds1, p1, q1, rfl, rfl, rfl, h1, r1⟩ := trodAll_cons r0
  obtain ⟨v2, vs2, d2, ds2, p2, q2, rfl, rfl, rfl, h2, r2⟩ := trodAll_cons r1
  obtain ⟨v3, vs3, d3, ds3, p3, q3, rfl, rfl, rfl, h3, r3⟩ := trodAll_cons r2
  obtain ⟨rfl, rfl, rfl⟩ := trodAll_nil r3
  obtain rfl : args = #[v0, v1, v2, v3] := by cases args; simp_all
  obtain ⟨rfl, rfl⟩ := trodVars_none hV
  obtain ⟨a0, len0, cap0, rfl⟩ := okWide_slice Try.underlying22 (hval 0 22 v0 rfl rfl)
  have k0 := h0
  have lt0 : ∀ x ∈ p0, x.block < W.heap.size := by obtain ⟨m, hm⟩ := k0; exact DataW.trod_lt m _ _ _ hm
  obtain ⟨z0, w0⟩ : ∃ zs, IsRow .u8 W a0 len0 cap0 zs := by
    obtain ⟨fuel, hf⟩ := h0
    rcases open_ints Try.underlying22 Try.underlying5 (by kernel_rfl) hf with ⟨hcs, _⟩ | ⟨x, l, c, zs, hcs, _, hl, hm, hz, _, hcell, hwz⟩
    · simp [Value.cells] at hcs
      obtain ⟨rfl, rfl, rfl⟩ := hcs
      exact ⟨[], .inl ⟨rfl, rfl, rfl, rfl⟩⟩
    · simp [Value.cells] at hcs
      obtain ⟨rfl, rfl, rfl⟩ := hcs
      exact ⟨zs, .inr ⟨_, rfl, hl, hm, by simpa using hz, hcell, hwz⟩⟩
  obtain ⟨a1, rfl, rfl, rfl, w1⟩ := open_int Try.underlying3 (hval 1 3 v1 rfl rfl) h1
  obtain ⟨a2, rfl, rfl, rfl, w2⟩ := open_int Try.underlying3 (hval 2 3 v2 rfl rfl) h2
  obtain ⟨a3, rfl, rfl, rfl, w3⟩ := open_int Try.underlying3 (hval 3 3 v3 rfl rfl) h3
  clear hA0 hval0
  refine (walk a0 len0 cap0 z0 a1 a2 a3 W w0 w1 w2 w3).mono fun e W' ⟨he, bel⟩ => ?_
  subst he
  exact ⟨_, rfl, _, _, _, [], _, [], hW', trodAll_mk1 (shut_bool Try.underlying4 _), (trodAll_cons_mk (Below.trod laidOut (by kernel_rfl) (of_decide_eq_true (by kernel_rfl)) k0 bel lt0) (trodAll_cons_mk (shut_int Try.underlying3 w1) (trodAll_cons_mk (shut_int Try.underlying3 w2) (trodAll_cons_mk (shut_int Try.underlying3 w3) trodAll_mk0)))), rfl, bel.frame _, fun h => by cases h⟩

theorem over : Rows.fnGrowTwiceKeepsBytesGivesRoomAndWipesWhatItLeavesRow.holds Try.pinned (OpenSpec.ofChange Rows.fnGrowTwiceKeepsBytesGivesRoomAndWipesWhatItLeavesSpec) :=
  OpenClaim.holds_of_wide 3 Try.f3 rfl rfl rfl rfl rfl rfl rfl ⟨rfl, rfl, rfl, rfl, rfl⟩ rfl rfl rfl rfl rfl (by kernel_rfl) Try.func3 (by kernel_rfl)
    (of_decide_eq_true (by kernel_rfl)) (by unfold Func.isWrapper; first | (rw [if_pos (by decide +kernel)]; kernel_rfl) | (rw [if_neg (by decide +kernel)]; exact ⟨rfl, rfl⟩))
    (fun os started H enc _ => lifted os started H enc)

/-- ████ THE STATEMENT ████ -/
theorem proved : Rows.FnGrowTwiceKeepsBytesGivesRoomAndWipesWhatItLeavesSaid := over
end Go.Proofs.Qxb6617606a.fnGrowTwiceKeepsBytesGivesRoomAndWipesWhatItLeaves

namespace Go.Proofs.Qxb6617606a
theorem growTwiceProved : Rows.FnGrowTwiceKeepsBytesGivesRoomAndWipesWhatItLeavesSaid := fnGrowTwiceKeepsBytesGivesRoomAndWipesWhatItLeaves.proved
end Go.Proofs.Qxb6617606a
