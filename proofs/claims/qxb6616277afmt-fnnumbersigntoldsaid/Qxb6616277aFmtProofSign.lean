/-
  FnNumberSign: the told and tied card, from the walk.
-/
import Derived.Test.Qxb6616277aFmtSign
import Derived.Test.Qxb6616277aFmtTld
import Derived.Test.Qxb6616277aFmtTie
import Derived.Test.Qxb6616277aFmtCards
import Derived.SevenTiedAt
namespace Go.Proofs.Qxb6616277aFmt
open Go.ChangeShapes Go.WideShapes Go.ChangeAt Go.RowKit Go.Kit Go.Deep
open Go.Extern.Stop Go.Stop Go.Extern

set_option maxHeartbeats 800000 in
set_option maxRecDepth 100000 in
/-- FnNumberSign returns true, whatever came in. -/
theorem sign_any (F : Interp) (hS : Short F) (a0 : Option Addr) (n cp : Nat) (D : Nat → Int) (x : Addr) (w : World) (hF : F.answers w.tape) (hg : w.cell? ⟨0, 0, none⟩ = some (eofV x))
    (hrow : n = 0 ∨ ∃ b off, a0 = some ⟨b, off, none⟩ ∧ ∀ j, j < n → w.cell? ⟨b, off + j, none⟩ = some (.int .u8 (D j))) (hb : ∀ j, j < n → 0 ≤ D j ∧ D j ≤ 255) :
    Calls Tryf.prog 5 #[.slice a0 n cp] w fun e w' => e = .returned (.bool true) ∧ Below w.heap.size w w' := by
  by_cases hn : n ≤ 1048576
  · have g3 : decide (1048576 < n) = false := decide_eq_false (by omega)
    have g4 : decide ((1048576 : Int) < n) = false := decide_eq_false (by omega)
    have g5 : decide (n ≤ 1048576) = true := decide_eq_true hn
    by_cases h0 : n = 0
    · subst h0
      clear hrow hb
      go_enter Tryf.func5, Tryf.ntmps5
      go_wp2_with fail
      refine (zzBytesSign_any _ _ _ w).mono ?_
      rintro e w' ⟨rfl, hw⟩
      obtain rfl := hw
      go_wp2
      go_ret
      exact ⟨rfl, Below.refl _ _⟩
    · rcases hrow with h | ⟨b, off, rfl, hc⟩
      · exact absurd h h0
      · have H0 : w.cell? ⟨b, off, none⟩ = some (.int .u8 (D 0)) := hc 0 (by omega)
        have g6 : ((n : Int) == 0) = false := by simp; omega
        by_cases h48 : 48 ≤ D 0
        · have qa : decide (D 0 < 48) = false := decide_eq_false (by omega)
          by_cases h57 : D 0 ≤ 57
          · exact sign_walk F hS b off n cp D x w hF hg hn (by omega) hc hb h48 h57
          · have qb : decide (57 < D 0) = true := decide_eq_true (by omega)
            clear hc hb
            go_enter Tryf.func5, Tryf.ntmps5
            go_wp2_with fail
            refine (zzBytesSign_any _ _ _ w).mono ?_
            rintro e w' ⟨rfl, hw⟩
            obtain rfl := hw
            go_wp2
            go_ret
            exact ⟨rfl, Below.refl _ _⟩
        · have qa : decide (D 0 < 48) = true := decide_eq_true (by omega)
          clear hc hb
          go_enter Tryf.func5, Tryf.ntmps5
          go_wp2_with fail
          refine (zzBytesSign_any _ _ _ w).mono ?_
          rintro e w' ⟨rfl, hw⟩
          obtain rfl := hw
          go_wp2
          go_ret
          exact ⟨rfl, Below.refl _ _⟩
  · have g5 : decide (n ≤ 1048576) = false := decide_eq_false hn
    clear hrow hb
    go_enter Tryf.func5, Tryf.ntmps5
    go_wp2_with fail
    refine (zzBytesSign_any _ _ _ w).mono ?_
    rintro e w' ⟨rfl, hw⟩
    obtain rfl := hw
    go_wp2
    go_ret
    exact ⟨rfl, Below.refl _ _⟩

set_option maxRecDepth 100000 in
theorem sign_lifted (os : Os) (started : os.Started) (H : Type) (enc : TypeId × Value → H) :
    ReturnsInTold none {} Tryf.checked os 5 .any Input.okWide ((OpenSpec.ofChange Rows.fnNumberSignSpec).preRow enc Tryf.prog Tryf.f5 [] false [("io.EOF", Rows.laid_io_EOF)]) (fun F => ((OpenSpec.ofChange Rows.fnNumberSignSpec).at F).post enc Tryf.prog Tryf.f5 false true false false) (aloneAtReturn Tryf.prog) nothingAlways := by
  refine returnsInTold_of_row (C := Tryf.checked) (s := OpenSpec.ofChange Rows.fnNumberSignSpec) (by kernel_rfl) Tryf.own started (by kernel_rfl) Tryf.func5
    (OpenSpec.witness_stopped_at (enc := enc) (C := Tryf.checked) false (laidWorld Tryf.prog os) #[.slice none 0 0] rfl (by kernel_rfl) (by kernel_rfl) (by kernel_rfl)
      (OpenSpec.preRow_of_B rfl 8 (by kernel_rfl) (by kernel_rfl) (laid_met os _))) ?_
  intro F W base args ds gs before _ hF hval0 hW _ _ _ hL _
  have hval : ∀ (j : Nat) t v, Tryf.f5.params[j]? = some t → args[j]? = some v → Value.okWide Tryf.prog W .any base t v := hval0
  have hW' := hW
  obtain ⟨p, q, hA0, hV, rfl, hfz, hnd⟩ := hW
  have hA : DataW.TrodAll enc Tryf.prog W 0 (fun _ => true) true Tryf.f5.params.toList args.toList ds p := hA0
  rw [Tryf.params5] at hA hval
  obtain ⟨v0, vs0, d0, ds0, p0, q0, hargs, rfl, rfl, h0, r0⟩ := trodAll_cons hA
  obtain ⟨rfl, rfl, rfl⟩ := trodAll_nil r0
  obtain rfl : args = #[v0] := by cases args; simp_all
  obtain ⟨rfl, rfl⟩ := trodVars_none hV
  obtain ⟨a0, len0, cap0, rfl⟩ := okWide_slice Tryf.underlying22 (hval 0 22 v0 rfl rfl)
  have k0 := h0
  have lt0 : ∀ x ∈ p0, x.block < W.heap.size := by obtain ⟨m, hm⟩ := k0; exact DataW.trod_lt m _ _ _ hm
  obtain ⟨zs, hrow, hbz⟩ := bytes_open h0
  clear hA0 hval0
  obtain ⟨x, hx⟩ := eof_cell hL
  refine (sign_any F.told (told_short F) a0 len0 cap0 (fun k => zs.getD k 0) x W hF hx hrow hbz).mono fun e W' ⟨he, bel⟩ => ?_
  subst he
  exact ⟨_, rfl, _, _, _, [], _, [], hW', trodAll_mk1 (shut_bool Tryf.underlying4 _), (trodAll_cons_mk (Below.trod Tryf.laidOut (by kernel_rfl) (of_decide_eq_true (by kernel_rfl)) k0 bel lt0) trodAll_mk0), rfl, bel.frame _, fun h => by cases h⟩

theorem numberSignProved : Rows.FnNumberSignToldSaid :=
  Claim7.holds_of_told_tied_any_at .later 5 Tryf.f5 "fmt.Sprintf" ["fmt.errorf"] [] _ _ _ _ _ (by kernel_rfl) rfl rfl rfl Tryf.laidOut (by kernel_rfl) rfl ⟨rfl, rfl, rfl, rfl, rfl, rfl, rfl⟩ rfl rfl (by kernel_rfl) (by kernel_rfl) Tryf.func5 (by kernel_rfl)
    (of_decide_eq_true (by kernel_rfl)) (of_decide_eq_true (by kernel_rfl)) Tryf.stops.symm rfl Tryf.stopKnobs.symm (by kernel_rfl)
    (by kernel_rfl) (by kernel_rfl) (by kernel_rfl) (by kernel_rfl) (by kernel_rfl) (by kernel_rfl) (by kernel_rfl) (by kernel_rfl) (by kernel_rfl) rfl (by kernel_rfl) rfl rfl
    rfl rfl
    rfl (by kernel_rfl) (by kernel_rfl) (by kernel_rfl) (by decide) (by kernel_rfl) fnNumberSign_row_tie
    (OpenClaim.moreEntering_of (by kernel_rfl) (by kernel_rfl) (by kernel_rfl) (by kernel_rfl) (by kernel_rfl) (by kernel_rfl) (by kernel_rfl) (by kernel_rfl) (by kernel_rfl) (by kernel_rfl))
    ⟨_, WideRow.started_initial, Tryf.quiet _⟩
    (fun os started _ H enc _ => sign_lifted os started H enc)

end Go.Proofs.Qxb6616277aFmt
