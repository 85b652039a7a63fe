/-
  number, walked.
-/
import Derived.Test.Qxb6616277aFmtRb
import Derived.Test.Qxb6616277aFmtRc
namespace Go.Proofs.Qxb6616277aFmt
open Go.RowKit Go.Deep Go.Extern.Stop Go.Stop Go.Extern

/-- What number leaves, where the plain function answers r. -/
def NumOut (w0 : World) (R S d n : Nat) (D : Nat → Int) (x : Addr) (r : Bool × Nat) (e : Ending) (w' : World) : Prop := ∃ v, e = .returned (if r.1 = true then .nilIface else .iface 76 v) ∧ At w0 R S d n D x r.2 w'
theorem numOut_bad {w0 w' : World} {R S d n p : Nat} {D : Nat → Int} {x : Addr} {v : Value} (h : At w0 R S d n D x p w') : NumOut w0 R S d n D x (false, p) (.returned (.iface 76 v)) w' := ⟨v, rfl, h⟩
theorem numOut_ok {w0 w' : World} {R S d n p : Nat} {D : Nat → Int} {x : Addr} (h : At w0 R S d n D x p w') : NumOut w0 R S d n D x (true, p) (.returned .nilIface) w' := ⟨.nilIface, rfl, h⟩
theorem digits_two {D : Nat → Int} {n p : Nat} (h : (digits D n p).1 = true) : digits D n p = (true, runTo D n p) := by
  unfold digits at h ⊢
  split at h
  · rw [if_pos (by assumption)]
  · cases h
theorem digits_two_bad {D : Nat → Int} {n p : Nat} (h : (digits D n p).1 = false) : digits D n p = (false, p) := by
  unfold digits at h ⊢
  split at h
  · cases h
  · rw [if_neg (by assumption)]

set_option linter.unusedSimpArgs false in
set_option maxHeartbeats 4000000 in
set_option maxRecDepth 100000 in
theorem number_walk (F : Interp) (hS : Short F) (w0 : World) (R S d n : Nat) (D : Nat → Int) (x : Addr) (r : Bool × Nat) (w : World) (hF : F.answers w0.tape) (h : Ready w0 R S d n D x 0 w) (hg : w0.cell? ⟨0, 0, none⟩ = some (eofV x)) (hb : ∀ i, i < n → 0 ≤ D i ∧ D i ≤ 255) (hr : r = number D n) :
    Calls Tryf.prog 40 #[.pointer (some ⟨R, 0, none⟩)] w fun e w' => NumOut w0 R S d n D x r e w' := by
  have HR := hid h
  have Hr := hid hr
  have Hb := hid hb
  clear h hr hb
  have eni : ∀ W, (binOp .neq 28 .nilIface .nilIface).run Tryf.prog W = .ok (.bool false) W := fun _ => by kernel_rfl
  have env : ∀ v W, (binOp .neq 28 (.iface 76 v) .nilIface).run Tryf.prog W = .ok (.bool true) W := fun _ _ => by kernel_rfl
  obtain ⟨B, L, pos, lk⟩ := HR.out.look
  have h1 := lk.h1
  have h2 := lk.h2
  have hbb := lk.hb
  have b1 := lk.lt
  have b2 := lk.le
  clear lk
  go_enter Tryf.func40, Tryf.ntmps40
  go_wp2_with fail
  go_quiet (fail)
  have HR := hid (HR.out.keep ((Chg.refl _ w).drewN nq))
  generalize w.drewN nq = w1 at HR ⊢
  clear h1 h2 hbb b1 b2
  go_upto_if 16 with fail
  go_cut [] from 6 (fun wc => ∃ p, Hid (r = body D n p) ∧ Hid (At w0 R S d n D x p wc))
  case first =>
    obtain ⟨B, L, pos, lk⟩ := HR.out.look
    have h2 := lk.h2
    have f2 := lk.f2
    have b1 := lk.lt
    have b2 := lk.le
    have HN := hid lk.step
    clear lk
    by_cases h45 : D 0 = 45
    · have hq : (D 0 == 45) = true := by simp [h45]
      go_wp2
      go_meet
      exact ⟨1, by rw [Hr.out, number, if_pos h45]; exact rfl, HN⟩
    · have hq : (D 0 == 45) = false := by simp [h45]
      go_wp2
      go_meet
      exact ⟨0, by rw [Hr.out, number, if_neg h45]; exact rfl, hid HR.out.at⟩
  case rest =>
    obtain ⟨p, Hr, HA⟩ := hcut
    clear HR
    by_cases hp : p < n
    · go_wp2_with fail
      refine (need_yes w0 R S d n D x p wc HA.out hg hp).mono ?_
      rintro e w3 ⟨rfl, hR⟩
      have HR := hid hR
      obtain ⟨B, L, pos, lk⟩ := hR.look
      have h1 := lk.h1
      have h2 := lk.h2
      have hbb := lk.hb
      have b1 := lk.lt
      have b2 := lk.le
      clear lk hR
      go_wp2_with fail
      go_quiet (fail)
      have HR := hid (HR.out.keep ((Chg.refl _ w3).drewN nq))
      generalize w3.drewN nq = w4 at HR ⊢
      clear h1 h2 hbb b1 b2 HA
      go_upto_if 39 with fail
      go_cut [] from 6 (fun wc => ∃ p, Hid (r = frac D n p) ∧ Hid (At w0 R S d n D x p wc))
      case first =>
        by_cases h48 : D p = 48
        · have hq : (D p == 48) = true := by simp [h48]
          obtain ⟨B, L, pos, lk⟩ := HR.out.look
          have h2 := lk.h2
          have f2 := lk.f2
          have b1 := lk.lt
          have b2 := lk.le
          have HN := hid lk.step
          clear lk
          go_wp2
          go_meet
          exact ⟨p + 1, by rw [Hr.out, body, if_pos hp, if_pos h48]; exact rfl, HN⟩
        · have hq : (D p == 48) = false := by simp [h48]
          cases hok : (digits D n p).1 with
          | true =>
            go_wp2_with fail
            refine (digits_ok w0 R S d n D x p w4 HR.out.at hg hok).mono ?_
            rintro e w5 ⟨rfl, hA⟩
            have HA := hid hA
            clear hA
            go_wp2
            go_meet
            exact ⟨runTo D n p, by rw [Hr.out, body, if_pos hp, if_neg h48, andThen, if_pos hok, digits_two hok]; exact rfl, HA⟩
          | false =>
            go_wp2_with fail
            refine (digits_bad F hS w0 R S d n D x p w4 hF HR.out.at hg Hb.out hok).mono ?_
            rintro e w5 ⟨⟨v, rfl⟩, hA⟩
            have HA := hid hA
            clear hA
            go_wp2
            go_ret
            obtain rfl : r = (false, p) := by rw [Hr.out, body, if_pos hp, if_neg h48, andThen, if_neg (by simp [hok]), digits_two_bad hok]
            exact numOut_bad HA.out
      case rest =>
        clear HR Hr
        obtain ⟨p, Hr, HA⟩ := hcut
        go_upto_region 10 with fail
        go_cut [66] from 6 (fun s66 wc => (s66 = .bool true ∧ (p < n ∧ D p = 46) ∧ Hid (Ready w0 R S d n D x p wc)) ∨ (s66 = .bool false ∧ ¬ (p < n ∧ D p = 46) ∧ Hid (At w0 R S d n D x p wc)))
        case first =>
          refine r10_any w0 R S d n D x p _ hg HA _ (fun _ _ d _ _ h => by cases d <;> exact h) _ _ _ _ _ _ _ _ _ _ _ _ _ _ _ _ _ _ _ _ _ _ _ _ _ _ _ _ _ _ _ _ _ _ _ _ _ _ _ _ _ _ _ _ _ _ _ _ _ _ _ _ _ _ _ _ _ _ _ _ _ _ _ _ _ _ _ _ _ _ _ _ _ _ _ _ _ _ _ _ _ _ _ _ _ _ _ _ _ _ _ _ _ _ _ _ _ _ _ _ _ _ _ _ _ _ _ _ _ _ _ _ _ _ _ _ _ _ _ _ _ _ _ _ _ _ _ _ _ _ _ _ _ _ _ _ _ _ _ _ _ _ _ _ _ _ _ _ _ _ _ _ _ _ _ (hid ?_) (hid ?_)
          · intro hc _ _ _ _ _ _ _ _ _ _ _ _ _ _ w' hR
            have HR := hid hR
            clear hR
            go_wp2
            go_meet
            exact .inl ⟨rfl, hc, HR⟩
          · intro hc _ _ _ _ _ _ _ _ _ _ _ _ _ _ w' hR
            have HR := hid hR
            clear hR
            go_wp2
            go_meet
            exact .inr ⟨rfl, hc, HR⟩
        case rest =>
          clear HA
          go_upto_if 66 with fail
          go_cut [] from 6 (fun wc => ∃ p, Hid (r = expo D n p) ∧ Hid (At w0 R S d n D x p wc))
          case first =>
            rcases hcut with ⟨rfl, hdot, HR⟩ | ⟨rfl, hdot, HA⟩
            · obtain ⟨B, L, pos, lk⟩ := HR.out.look
              have h2 := lk.h2
              have f2 := lk.f2
              have b1 := lk.lt
              have b2 := lk.le
              have HN := hid lk.step
              clear lk
              cases hok : (digits D n (p + 1)).1 with
              | true =>
                go_wp2_with fail
                refine (digits_ok w0 R S d n D x (p + 1) _ HN.out hg hok).mono ?_
                rintro e w5 ⟨rfl, hA⟩
                have HA := hid hA
                clear hA
                go_wp2
                go_meet
                exact ⟨runTo D n (p + 1), by rw [Hr.out, frac, if_pos hdot, andThen, if_pos hok, digits_two hok]; exact rfl, HA⟩
              | false =>
                go_wp2_with fail
                refine (digits_bad F hS w0 R S d n D x (p + 1) _ hF HN.out hg Hb.out hok).mono ?_
                rintro e w5 ⟨⟨v, rfl⟩, hA⟩
                have HA := hid hA
                clear hA
                go_wp2
                go_ret
                obtain rfl : r = (false, p + 1) := by rw [Hr.out, frac, if_pos hdot, andThen, if_neg (by simp [hok]), digits_two_bad hok]
                exact numOut_bad HA.out
            · go_wp2
              go_meet
              exact ⟨p, by rw [Hr.out, frac, if_neg hdot]; exact rfl, HA⟩
          case rest =>
            clear Hr
            obtain ⟨p, Hr, HA⟩ := hcut
            go_upto_region 15 with fail
            go_cut [106] from 6 (fun s wc => (s = .bool true ∧ (p < n ∧ isE (D p) = true) ∧ Hid (Ready w0 R S d n D x p wc)) ∨ (s = .bool false ∧ ¬ (p < n ∧ isE (D p) = true) ∧ Hid (At w0 R S d n D x p wc)))
            case first =>
              refine r15_any w0 R S d n D x p _ hg HA _ (fun _ _ d _ _ h => by cases d <;> exact h) _ _ _ _ _ _ _ _ _ _ _ _ _ _ _ _ _ _ _ _ _ _ _ _ _ _ _ _ _ _ _ _ _ _ _ _ _ _ _ _ _ _ _ _ _ _ _ _ _ _ _ _ _ _ _ _ _ _ _ _ _ _ _ _ _ _ _ _ _ _ _ _ _ _ _ _ _ _ _ _ _ _ _ _ _ _ _ _ _ _ _ _ _ _ _ _ _ _ _ _ _ _ _ _ _ _ _ _ _ _ _ _ _ _ _ _ _ _ _ _ _ _ _ _ _ _ _ _ _ _ _ _ _ _ _ _ _ _ _ _ _ _ _ _ _ _ _ _ _ _ _ _ _ _ _ (hid ?_) (hid ?_)
              · intro hc _ _ _ _ _ _ _ _ _ _ _ _ _ _ _ _ _ _ _ _ _ _ _ _ _ _ _ w' hR
                have HR := hid hR
                clear hR
                go_wp2
                go_meet
                exact .inl ⟨rfl, hc, HR⟩
              · intro hc _ _ _ _ _ _ _ _ _ _ _ _ _ _ _ _ _ _ _ _ _ _ _ _ _ _ _ w' hR
                have HR := hid hR
                clear hR
                go_wp2
                go_meet
                exact .inr ⟨rfl, hc, HR⟩
            case rest =>
              clear HA
              go_upto_if 106 with fail
              go_cut [] from 6 (fun wc => ∃ p, Hid (r = (true, p)) ∧ Hid (At w0 R S d n D x p wc))
              case first =>
                rcases hcut with ⟨rfl, hE, HR⟩ | ⟨rfl, hE, HA⟩
                · obtain ⟨B, L, pos, lk⟩ := HR.out.look
                  have h2 := lk.h2
                  have f2 := lk.f2
                  have b1 := lk.lt
                  have b2 := lk.le
                  have HN := hid lk.step
                  clear lk
                  have Hr := hid (show r = signed D n (p + 1) by rw [Hr.out, expo, if_pos hE])
                  go_upto_region 17 with fail
                  generalize wc.setCell ⟨R, 2, none⟩ (.int .i64 ((pos : Int) + 1)) = w4 at HN ⊢
                  clear h2 f2 b1 b2 HR hE
                  have HA := HN
                  clear HN
                  generalize p + 1 = q at HA Hr
                  go_upto_region 17 with fail
                  go_cut [141] from 6 (fun s wc => (s = .bool true ∧ (q < n ∧ isS (D q) = true) ∧ Hid (Ready w0 R S d n D x q wc)) ∨ (s = .bool false ∧ ¬ (q < n ∧ isS (D q) = true) ∧ Hid (At w0 R S d n D x q wc)))
                  case first =>
                    refine r17_any w0 R S d n D x q _ hg HA _ (fun _ _ d _ _ h => by cases d <;> exact h) _ _ _ _ _ _ _ _ _ _ _ _ _ _ _ _ _ _ _ _ _ _ _ _ _ _ _ _ _ _ _ _ _ _ _ _ _ _ _ _ _ _ _ _ _ _ _ _ _ _ _ _ _ _ _ _ _ _ _ _ _ _ _ _ _ _ _ _ _ _ _ _ _ _ _ _ _ _ _ _ _ _ _ _ _ _ _ _ _ _ _ _ _ _ _ _ _ _ _ _ _ _ _ _ _ _ _ _ _ _ _ _ _ _ _ _ _ _ _ _ _ _ _ _ _ _ _ _ _ _ _ _ _ _ _ _ _ _ _ _ _ _ _ _ _ _ _ _ _ _ _ _ _ _ _ (hid ?_) (hid ?_)
                    · intro hc _ _ _ _ _ _ _ _ _ _ _ _ _ _ _ _ _ _ _ _ _ _ _ _ _ _ _ w' hR
                      have HR := hid hR
                      clear hR
                      go_wp2
                      go_meet
                      exact .inl ⟨rfl, hc, HR⟩
                    · intro hc _ _ _ _ _ _ _ _ _ _ _ _ _ _ _ _ _ _ _ _ _ _ _ _ _ _ _ w' hR
                      have HR := hid hR
                      clear hR
                      go_wp2
                      go_meet
                      exact .inr ⟨rfl, hc, HR⟩
                  case rest =>
                    clear HA
                    go_upto_if 141 with fail
                    go_cut [] from 6 (fun wc => ∃ p, Hid (r = digits D n p) ∧ Hid (At w0 R S d n D x p wc))
                    case first =>
                      rcases hcut with ⟨rfl, hE, HR⟩ | ⟨rfl, hE, HA⟩
                      · obtain ⟨B, L, pos, lk⟩ := HR.out.look
                        have h2 := lk.h2
                        have f2 := lk.f2
                        have b1 := lk.lt
                        have b2 := lk.le
                        have HN := hid lk.step
                        clear lk
                        go_wp2
                        go_meet
                        exact ⟨q + 1, by rw [Hr.out, signed, if_pos hE]; exact rfl, HN⟩
                      · go_wp2
                        go_meet
                        exact ⟨q, by rw [Hr.out, signed, if_neg hE]; exact rfl, HA⟩
                    case rest =>
                      clear Hr
                      obtain ⟨p, Hr, HA⟩ := hcut
                      cases hok : (digits D n p).1 with
                      | true =>
                        go_wp2_with fail
                        refine (digits_ok w0 R S d n D x p _ HA.out hg hok).mono ?_
                        rintro e w5 ⟨rfl, hA⟩
                        have HA := hid hA
                        clear hA
                        go_wp2
                        go_meet
                        exact ⟨runTo D n p, by rw [Hr.out, digits_two hok]; exact rfl, HA⟩
                      | false =>
                        go_wp2_with fail
                        refine (digits_bad F hS w0 R S d n D x p _ hF HA.out hg Hb.out hok).mono ?_
                        rintro e w5 ⟨⟨v, rfl⟩, hA⟩
                        have HA := hid hA
                        clear hA
                        go_wp2
                        go_ret
                        obtain rfl : r = (false, p) := by rw [Hr.out, digits_two_bad hok]
                        exact numOut_bad HA.out
                · go_wp2
                  go_meet
                  exact ⟨p, by rw [Hr.out, expo, if_neg hE]; exact rfl, HA⟩
              case rest =>
                clear Hr
                obtain ⟨p, Hr, HA⟩ := hcut
                obtain ⟨a, L, pos, en, base, err, tail, hP, h⟩ := HA.out
                have HE := hid (readErr_any R x err wc ((h.bel.cell (World.block_lt_of_cell? w0 _ hg)).trans hg) (h.rR.cell (by omega)) (by rcases h.er with h1 | ⟨h1, _⟩; exact .inl h1; exact .inr h1))
                clear h
                go_wp2_with fail
                refine HE.out.mono ?_
                rintro e w5 ⟨rfl, hs⟩
                have HS := hid hs
                clear hs
                go_wp2
                go_ret
                obtain rfl := Hr.out
                exact numOut_ok (HA.out.keep (Chg.of_still HS.out))
    · go_wp2_with fail
      refine (need_no w0 R S d n D x p wc HA.out hg hp).mono ?_
      rintro e w3 ⟨rfl, hR⟩
      have HI := hid (endErr_any w0 R S d n D x p w3 hR hg)
      clear hR
      go_wp2_with fail
      refine HI.out.mono ?_
      rintro e w5 ⟨⟨v, rfl⟩, hA⟩
      have HA := hid hA
      clear hA
      go_wp2
      go_ret
      obtain rfl : r = (false, p) := by rw [Hr.out, body, if_neg hp]
      exact numOut_bad HA.out

end Go.Proofs.Qxb6616277aFmt
