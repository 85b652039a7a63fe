/-
  digits, walked.
-/
import Derived.Test.Qxb6616277aFmtQuo
import Derived.Deep.CutRange
import Derived.Deep.RegionWith
namespace Go.Proofs.Qxb6616277aFmt
open Go.RowKit Go.Deep Go.Extern.Stop Go.Stop Go.Extern

theorem At.tape {w0 w : World} {R S d n : Nat} {D : Nat → Int} {x : Addr} {P : Nat} (h : At w0 R S d n D x P w) : w.tape = w0.tape := by
  obtain ⟨_, _, _, _, _, _, _, _, h⟩ := h
  exact h.bel.tape

set_option maxHeartbeats 800000 in
set_option maxRecDepth 100000 in
theorem digits_bad (F : Interp) (hS : Short F) (w0 : World) (R S d n : Nat) (D : Nat → Int) (x : Addr) (P : Nat) (w : World) (hF : F.answers w0.tape) (h : At w0 R S d n D x P w) (hg : w0.cell? ⟨0, 0, none⟩ = some (eofV x)) (hb : ∀ i, i < n → 0 ≤ D i ∧ D i ≤ 255) (hbad : (digits D n P).1 = false) :
    Calls Tryf.prog 54 #[.pointer (some ⟨R, 0, none⟩)] w fun e w' => (∃ v, e = .returned (.iface 76 v)) ∧ At w0 R S d n D x P w' := by
  have hA := hid h
  clear h
  by_cases hin : P < n
  · have hnd : ¬ (48 ≤ D P ∧ D P ≤ 57) := fun hc => by
      simp [digits, hin, isd, hc] at hbad
    have hDP := hb P hin
    clear hbad
    go_enter Tryf.func54, Tryf.ntmps54
    go_wp2_with fail
    refine (need_yes w0 R S d n D x P w hA.out hg hin).mono ?_
    rintro e w1 ⟨rfl, hR⟩
    have HR := hid hR
    obtain ⟨B, L, pos, lk⟩ := hR.look
    have h1 := lk.h1
    have h2 := lk.h2
    have hbb := lk.hb
    have b1 := lk.lt
    have b2 := lk.le
    clear lk hR
    have HI := fun m : Nat => hid (invalid_any F hS w0 R S d n D x P (w1.drewN m) (by show F.answers w1.tape; rw [HR.out.at.tape]; exact hF) (HR.out.keep ((Chg.refl _ _).drewN m)) hDP)
    by_cases h48 : D P < 48
    · have hd1 : decide (D P < 48) = true := decide_eq_true h48
      go_wp2_with fail
      go_quiet (fail)
      go_wp2_with fail
      refine (HI _).out.mono ?_
      rintro e w2 ⟨⟨v, rfl⟩, hE⟩
      have HE := hid hE
      clear hE
      go_wp2
      go_ret
      exact ⟨⟨_, rfl⟩, HE.out⟩
    · have hd1 : decide (D P < 48) = false := decide_eq_false h48
      have hd2 : decide (57 < D P) = true := decide_eq_true (by omega)
      go_wp2_with fail
      go_quiet (fail)
      go_wp2_with fail
      refine (HI _).out.mono ?_
      rintro e w2 ⟨⟨v, rfl⟩, hE⟩
      have HE := hid hE
      clear hE
      go_wp2
      go_ret
      exact ⟨⟨_, rfl⟩, HE.out⟩
  · clear hbad
    go_enter Tryf.func54, Tryf.ntmps54
    go_wp2_with fail
    refine (need_no w0 R S d n D x P w hA.out hg hin).mono ?_
    rintro e w1 ⟨rfl, hR⟩
    have HI := hid (endErr_any w0 R S d n D x P w1 hR hg)
    clear hR
    go_wp2_with fail
    refine HI.out.mono ?_
    rintro e w2 ⟨⟨v, rfl⟩, hE⟩
    have HE := hid hE
    clear hE
    go_wp2
    go_ret
    exact ⟨⟨_, rfl⟩, HE.out⟩

end Go.Proofs.Qxb6616277aFmt
