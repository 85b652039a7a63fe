/-
  digits, walked: where there is a digit.
-/
import Derived.Test.Qxb6616277aFmtDig
namespace Go.Proofs.Qxb6616277aFmt
open Go.RowKit Go.Deep Go.Extern.Stop Go.Stop Go.Extern

/-- One operation that yields, taken first: it is written out behind 'subst'. -/
theorem take_at {P : Program} {ops : Array Oper} {Q : Exit → Act → World → Prop} {md : Region.Mode} {S : World → Prop} {fuel : Nat} {listed : Array Bool} {a : Act} {w : World} (i : Nat) (hs : Region.noSelect ops = true) (hf : Region.free md ops listed i = true)
    (hr : (Region.ready md ops listed).contains i = true) (hex : (ops[i]?).isSome = true) (hS : S w)
    (h : ∀ oi, ops[i]? = some oi → ∃ v, (∀ c a w, Q (.panic c) (a.put oi.dst v) w → Q (.panic c) a w) ∧ YieldsIf P ops S oi v a ∧ wpAnyH P md ops Q S fuel (listed.setIfInBounds i true) (a.put oi.dst v) w) :
    wpAnyH P md ops Q S (fuel + 1) listed a w := by
  obtain ⟨oi, hi⟩ := Option.isSome_iff_exists.1 hex
  obtain ⟨v, hQ, hy, hw⟩ := h oi hi
  exact wpAnyH_take hi hs hf hr hQ hy hS hw

set_option linter.unusedSimpArgs false in
set_option maxHeartbeats 1600000 in
set_option maxRecDepth 100000 in
theorem digits_ok (w0 : World) (R S d n : Nat) (D : Nat → Int) (x : Addr) (P : Nat) (w : World) (h : At w0 R S d n D x P w) (hg : w0.cell? ⟨0, 0, none⟩ = some (eofV x)) (hok : (digits D n P).1 = true) :
    Calls Tryf.prog 54 #[.pointer (some ⟨R, 0, none⟩)] w fun e w' => e = .returned .nilIface ∧ At w0 R S d n D x (runTo D n P) w' := by
  have hA := hid h
  clear h
  obtain ⟨hin, c1, c2⟩ : P < n ∧ 48 ≤ D P ∧ D P ≤ 57 := by
    unfold digits at hok
    split at hok
    · rename_i hc
      simpa [isd] using hc
    · cases hok
  have hd1 : decide (D P < 48) = false := decide_eq_false (by omega)
  have hd2 : decide (57 < D P) = false := decide_eq_false (by omega)
  clear hok
  go_enter Tryf.func54, Tryf.ntmps54
  go_wp2_with fail
  refine (need_yes w0 R S d n D x P w hA.out hg hin).mono ?_
  rintro e w1 ⟨rfl, hR⟩
  have HR := hid hR
  obtain ⟨B, L, pos, lk⟩ := hR.look
  have h1 := lk.h1
  have h2 := lk.h2
  have hbb := lk.hb
  have b1 := lk.lt
  have b2 := lk.le
  clear lk hR
  go_wp2_with fail
  go_quiet (fail)
  go_wp2_with fail
  have HR2 := hid (HR.out.at.keep ((Chg.refl _ _).drewN nq))
  clear HR h1 h2 hbb b1 b2 hd1 hd2 c1 c2 hA
  generalize w1.drewN nq = w2 at HR2 ⊢
  go_loopg [] (n - P) (fun k wr => ∃ p, k = n - p ∧ p ≤ n ∧ runTo D n p = runTo D n P ∧ Hid (At w0 R S d n D x p wr))
  case atStart => exact ⟨P, rfl, by omega, rfl, HR2⟩
  case round =>
    obtain ⟨p, rfl, hpn, hrun, HA⟩ := hrel
    by_cases hp : p < n
    · by_cases h48 : 48 ≤ D p
      · have hd1 : decide (48 ≤ D p) = true := decide_eq_true h48
        by_cases h57 : D p ≤ 57
        · have hd2 : decide (D p ≤ 57) = true := decide_eq_true h57
          go_upto_region 6 with fail
          go_cut [54] from 27 to 61 (fun s54 wc => s54 = .bool true ∧ Hid (Ready w0 R S d n D x p wc))
          case first =>
            refine wp_region_any (by kernel_rfl) ?_
            change wpAny _ _ _ _ _ _ _ (World.drew _)
            refine wpAny_take (i := 0) (v := ?_) rfl (by kernel_rfl) (by kernel_rfl) (by kernel_rfl) (fun _ _ _ h => h) (Or.inl ⟨by rfl, ?_⟩) ?_
            rotate_left
            · (intro w; go_simp <;> with_reducible rfl)
            simp only [Act.put, List.setIfInBounds_toArray, List.set_cons_zero, List.set_cons_succ]
            refine wpAny_ready (rs := [1]) (by kernel_rfl) (by simp) ?_
            refine AllReady.cons rfl (fun K hK => ?_) AllReady.nil
            go_simp
            refine (need_yes w0 R S d n D x p _ ?_ hg hp).mono ?_
            · exact HA.out.keep (Chg.refl _ _).drew
            rintro e w3 ⟨rfl, hR⟩
            have HR := hid hR
            obtain ⟨B, L, pos, lk⟩ := hR.look
            have h1 := lk.h1
            have h2 := lk.h2
            have hbb := lk.hb
            have b1 := lk.lt
            have b2 := lk.le
            clear lk hR
            go_wp2
            refine wpAny_of_held (S := fun w' => w'.cell? ⟨R, 1, none⟩ = some (.slice (some ⟨B, 0, none⟩) L L) ∧ w'.cell? ⟨R, 2, none⟩ = some (.int .i64 pos) ∧ w'.cell? ⟨B, pos, none⟩ = some (.int .u8 (D p))) _ _ _ _ ?_
            have hS5 := And.intro h1 (And.intro h2 hbb)
            refine take_at 2 (by kernel_rfl) (by kernel_rfl) (by kernel_rfl) (by kernel_rfl) hS5 (fun oi hoi => ?_)
            simp only [List.getElem?_toArray, List.getElem?_cons_succ, List.getElem?_cons_zero, Option.some.injEq] at hoi
            subst hoi
            refine ⟨?_, fun _ _ _ h => h, Or.inl ⟨by rfl, ?_⟩, ?_⟩
            rotate_left
            · (intro w hSw; (try dsimp only at hSw); go_simp <;> with_reducible rfl)
            simp only [Act.put, List.setIfInBounds_toArray, List.set_cons_zero, List.set_cons_succ]
            refine take_at 3 (by kernel_rfl) (by kernel_rfl) (by kernel_rfl) (by kernel_rfl) hS5 (fun oi hoi => ?_)
            simp only [List.getElem?_toArray, List.getElem?_cons_succ, List.getElem?_cons_zero, Option.some.injEq] at hoi
            subst hoi
            refine ⟨?_, fun _ _ _ h => h, Or.inl ⟨by rfl, ?_⟩, ?_⟩
            rotate_left
            · (intro w hSw; (try dsimp only at hSw); go_simp <;> with_reducible rfl)
            simp only [Act.put, List.setIfInBounds_toArray, List.set_cons_zero, List.set_cons_succ]
            refine take_at 4 (by kernel_rfl) (by kernel_rfl) (by kernel_rfl) (by kernel_rfl) hS5 (fun oi hoi => ?_)
            simp only [List.getElem?_toArray, List.getElem?_cons_succ, List.getElem?_cons_zero, Option.some.injEq] at hoi
            subst hoi
            refine ⟨?_, fun _ _ _ h => h, Or.inl ⟨by rfl, ?_⟩, ?_⟩
            rotate_left
            · (intro w hSw; (try dsimp only at hSw); go_simp <;> with_reducible rfl)
            simp only [Act.put, List.setIfInBounds_toArray, List.set_cons_zero, List.set_cons_succ]
            refine take_at 5 (by kernel_rfl) (by kernel_rfl) (by kernel_rfl) (by kernel_rfl) hS5 (fun oi hoi => ?_)
            simp only [List.getElem?_toArray, List.getElem?_cons_succ, List.getElem?_cons_zero, Option.some.injEq] at hoi
            subst hoi
            refine ⟨?_, fun _ _ _ h => h, Or.inl ⟨by rfl, ?_⟩, ?_⟩
            rotate_left
            · (intro w hSw; (try dsimp only at hSw); go_simp <;> with_reducible rfl)
            simp only [Act.put, List.setIfInBounds_toArray, List.set_cons_zero, List.set_cons_succ]
            refine take_at 6 (by kernel_rfl) (by kernel_rfl) (by kernel_rfl) (by kernel_rfl) hS5 (fun oi hoi => ?_)
            simp only [List.getElem?_toArray, List.getElem?_cons_succ, List.getElem?_cons_zero, Option.some.injEq] at hoi
            subst hoi
            refine ⟨?_, fun _ _ _ h => h, Or.inl ⟨by rfl, ?_⟩, ?_⟩
            rotate_left
            · (intro w hSw; (try dsimp only at hSw); go_simp <;> with_reducible rfl)
            simp only [Act.put, List.setIfInBounds_toArray, List.set_cons_zero, List.set_cons_succ]
            refine take_at 7 (by kernel_rfl) (by kernel_rfl) (by kernel_rfl) (by kernel_rfl) hS5 (fun oi hoi => ?_)
            simp only [List.getElem?_toArray, List.getElem?_cons_succ, List.getElem?_cons_zero, Option.some.injEq] at hoi
            subst hoi
            refine ⟨?_, fun _ _ _ h => h, Or.inl ⟨by rfl, ?_⟩, ?_⟩
            rotate_left
            · (intro w hSw; (try dsimp only at hSw); go_simp <;> with_reducible rfl)
            simp only [Act.put, List.setIfInBounds_toArray, List.set_cons_zero, List.set_cons_succ]
            refine take_at 8 (by kernel_rfl) (by kernel_rfl) (by kernel_rfl) (by kernel_rfl) hS5 (fun oi hoi => ?_)
            simp only [List.getElem?_toArray, List.getElem?_cons_succ, List.getElem?_cons_zero, Option.some.injEq] at hoi
            subst hoi
            refine ⟨?_, fun _ _ _ h => h, Or.inl ⟨by rfl, ?_⟩, ?_⟩
            rotate_left
            · (intro w hSw; (try dsimp only at hSw); go_simp <;> with_reducible rfl)
            simp only [Act.put, List.setIfInBounds_toArray, List.set_cons_zero, List.set_cons_succ]
            refine take_at 9 (by kernel_rfl) (by kernel_rfl) (by kernel_rfl) (by kernel_rfl) hS5 (fun oi hoi => ?_)
            simp only [List.getElem?_toArray, List.getElem?_cons_succ, List.getElem?_cons_zero, Option.some.injEq] at hoi
            subst hoi
            refine ⟨?_, fun _ _ _ h => h, Or.inl ⟨by rfl, ?_⟩, ?_⟩
            rotate_left
            · (intro w hSw; (try dsimp only at hSw); go_simp <;> with_reducible rfl)
            simp only [Act.put, List.setIfInBounds_toArray, List.set_cons_zero, List.set_cons_succ]
            refine take_at 10 (by kernel_rfl) (by kernel_rfl) (by kernel_rfl) (by kernel_rfl) hS5 (fun oi hoi => ?_)
            simp only [List.getElem?_toArray, List.getElem?_cons_succ, List.getElem?_cons_zero, Option.some.injEq] at hoi
            subst hoi
            refine ⟨?_, fun _ _ _ h => h, Or.inl ⟨by rfl, ?_⟩, ?_⟩
            rotate_left
            · (intro w hSw; (try dsimp only at hSw); go_simp <;> with_reducible rfl)
            simp only [Act.put, List.setIfInBounds_toArray, List.set_cons_zero, List.set_cons_succ]
            refine take_at 11 (by kernel_rfl) (by kernel_rfl) (by kernel_rfl) (by kernel_rfl) hS5 (fun oi hoi => ?_)
            simp only [List.getElem?_toArray, List.getElem?_cons_succ, List.getElem?_cons_zero, Option.some.injEq] at hoi
            subst hoi
            refine ⟨?_, fun _ _ _ h => h, Or.inl ⟨by rfl, ?_⟩, ?_⟩
            rotate_left
            · (intro w hSw; (try dsimp only at hSw); go_simp <;> with_reducible rfl)
            simp only [Act.put, List.setIfInBounds_toArray, List.set_cons_zero, List.set_cons_succ]
            refine take_at 12 (by kernel_rfl) (by kernel_rfl) (by kernel_rfl) (by kernel_rfl) hS5 (fun oi hoi => ?_)
            simp only [List.getElem?_toArray, List.getElem?_cons_succ, List.getElem?_cons_zero, Option.some.injEq] at hoi
            subst hoi
            refine ⟨?_, fun _ _ _ h => h, Or.inl ⟨by rfl, ?_⟩, ?_⟩
            rotate_left
            · (intro w hSw; (try dsimp only at hSw); go_simp <;> with_reducible rfl)
            simp only [Act.put, List.setIfInBounds_toArray, List.set_cons_zero, List.set_cons_succ]
            refine take_at 13 (by kernel_rfl) (by kernel_rfl) (by kernel_rfl) (by kernel_rfl) hS5 (fun oi hoi => ?_)
            simp only [List.getElem?_toArray, List.getElem?_cons_succ, List.getElem?_cons_zero, Option.some.injEq] at hoi
            subst hoi
            refine ⟨?_, fun _ _ _ h => h, Or.inl ⟨by rfl, ?_⟩, ?_⟩
            rotate_left
            · (intro w hSw; (try dsimp only at hSw); go_simp <;> with_reducible rfl)
            simp only [Act.put, List.setIfInBounds_toArray, List.set_cons_zero, List.set_cons_succ]
            refine take_at 14 (by kernel_rfl) (by kernel_rfl) (by kernel_rfl) (by kernel_rfl) hS5 (fun oi hoi => ?_)
            simp only [List.getElem?_toArray, List.getElem?_cons_succ, List.getElem?_cons_zero, Option.some.injEq] at hoi
            subst hoi
            refine ⟨?_, fun _ _ _ h => h, Or.inl ⟨by rfl, ?_⟩, ?_⟩
            rotate_left
            · (intro w hSw; (try dsimp only at hSw); go_simp <;> with_reducible rfl)
            simp only [Act.put, List.setIfInBounds_toArray, List.set_cons_zero, List.set_cons_succ]
            refine take_at 15 (by kernel_rfl) (by kernel_rfl) (by kernel_rfl) (by kernel_rfl) hS5 (fun oi hoi => ?_)
            simp only [List.getElem?_toArray, List.getElem?_cons_succ, List.getElem?_cons_zero, Option.some.injEq] at hoi
            subst hoi
            refine ⟨?_, fun _ _ _ h => h, Or.inl ⟨by rfl, ?_⟩, ?_⟩
            rotate_left
            · (intro w hSw; (try dsimp only at hSw); go_simp <;> with_reducible rfl)
            simp only [Act.put, List.setIfInBounds_toArray, List.set_cons_zero, List.set_cons_succ]
            refine take_at 16 (by kernel_rfl) (by kernel_rfl) (by kernel_rfl) (by kernel_rfl) hS5 (fun oi hoi => ?_)
            simp only [List.getElem?_toArray, List.getElem?_cons_succ, List.getElem?_cons_zero, Option.some.injEq] at hoi
            subst hoi
            refine ⟨?_, fun _ _ _ h => h, Or.inl ⟨by rfl, ?_⟩, ?_⟩
            rotate_left
            · (intro w hSw; (try dsimp only at hSw); go_simp <;> with_reducible rfl)
            simp only [Act.put, List.setIfInBounds_toArray, List.set_cons_zero, List.set_cons_succ]
            refine take_at 17 (by kernel_rfl) (by kernel_rfl) (by kernel_rfl) (by kernel_rfl) hS5 (fun oi hoi => ?_)
            simp only [List.getElem?_toArray, List.getElem?_cons_succ, List.getElem?_cons_zero, Option.some.injEq] at hoi
            subst hoi
            refine ⟨?_, fun _ _ _ h => h, Or.inl ⟨by rfl, ?_⟩, ?_⟩
            rotate_left
            · (intro w hSw; (try dsimp only at hSw); go_simp <;> with_reducible rfl)
            simp only [Act.put, List.setIfInBounds_toArray, List.set_cons_zero, List.set_cons_succ]
            refine take_at 18 (by kernel_rfl) (by kernel_rfl) (by kernel_rfl) (by kernel_rfl) hS5 (fun oi hoi => ?_)
            simp only [List.getElem?_toArray, List.getElem?_cons_succ, List.getElem?_cons_zero, Option.some.injEq] at hoi
            subst hoi
            refine ⟨?_, fun _ _ _ h => h, Or.inl ⟨by rfl, ?_⟩, ?_⟩
            rotate_left
            · (intro w hSw; (try dsimp only at hSw); go_simp <;> with_reducible rfl)
            simp only [Act.put, List.setIfInBounds_toArray, List.set_cons_zero, List.set_cons_succ]
            refine take_at 19 (by kernel_rfl) (by kernel_rfl) (by kernel_rfl) (by kernel_rfl) hS5 (fun oi hoi => ?_)
            simp only [List.getElem?_toArray, List.getElem?_cons_succ, List.getElem?_cons_zero, Option.some.injEq] at hoi
            subst hoi
            refine ⟨?_, fun _ _ _ h => h, Or.inl ⟨by rfl, ?_⟩, ?_⟩
            rotate_left
            · (intro w hSw; (try dsimp only at hSw); go_simp <;> with_reducible rfl)
            simp only [Act.put, List.setIfInBounds_toArray, List.set_cons_zero, List.set_cons_succ]
            refine take_at 20 (by kernel_rfl) (by kernel_rfl) (by kernel_rfl) (by kernel_rfl) hS5 (fun oi hoi => ?_)
            simp only [List.getElem?_toArray, List.getElem?_cons_succ, List.getElem?_cons_zero, Option.some.injEq] at hoi
            subst hoi
            refine ⟨?_, fun _ _ _ h => h, Or.inl ⟨by rfl, ?_⟩, ?_⟩
            rotate_left
            · (intro w hSw; (try dsimp only at hSw); go_simp <;> with_reducible rfl)
            simp only [Act.put, List.setIfInBounds_toArray, List.set_cons_zero, List.set_cons_succ]
            refine take_at 21 (by kernel_rfl) (by kernel_rfl) (by kernel_rfl) (by kernel_rfl) hS5 (fun oi hoi => ?_)
            simp only [List.getElem?_toArray, List.getElem?_cons_succ, List.getElem?_cons_zero, Option.some.injEq] at hoi
            subst hoi
            refine ⟨?_, fun _ _ _ h => h, Or.inl ⟨by rfl, ?_⟩, ?_⟩
            rotate_left
            · (intro w hSw; (try dsimp only at hSw); go_simp <;> with_reducible rfl)
            simp only [Act.put, List.setIfInBounds_toArray, List.set_cons_zero, List.set_cons_succ]
            refine take_at 22 (by kernel_rfl) (by kernel_rfl) (by kernel_rfl) (by kernel_rfl) hS5 (fun oi hoi => ?_)
            simp only [List.getElem?_toArray, List.getElem?_cons_succ, List.getElem?_cons_zero, Option.some.injEq] at hoi
            subst hoi
            refine ⟨?_, fun _ _ _ h => h, Or.inl ⟨by rfl, ?_⟩, ?_⟩
            rotate_left
            · (intro w hSw; (try dsimp only at hSw); go_simp <;> with_reducible rfl)
            simp only [Act.put, List.setIfInBounds_toArray, List.set_cons_zero, List.set_cons_succ]
            refine take_at 23 (by kernel_rfl) (by kernel_rfl) (by kernel_rfl) (by kernel_rfl) hS5 (fun oi hoi => ?_)
            simp only [List.getElem?_toArray, List.getElem?_cons_succ, List.getElem?_cons_zero, Option.some.injEq] at hoi
            subst hoi
            refine ⟨?_, fun _ _ _ h => h, Or.inl ⟨by rfl, ?_⟩, ?_⟩
            rotate_left
            · (intro w hSw; (try dsimp only at hSw); go_simp <;> with_reducible rfl)
            simp only [Act.put, List.setIfInBounds_toArray, List.set_cons_zero, List.set_cons_succ]
            refine take_at 24 (by kernel_rfl) (by kernel_rfl) (by kernel_rfl) (by kernel_rfl) hS5 (fun oi hoi => ?_)
            simp only [List.getElem?_toArray, List.getElem?_cons_succ, List.getElem?_cons_zero, Option.some.injEq] at hoi
            subst hoi
            refine ⟨?_, fun _ _ _ h => h, Or.inl ⟨by rfl, ?_⟩, ?_⟩
            rotate_left
            · (intro w hSw; (try dsimp only at hSw); go_simp <;> with_reducible rfl)
            simp only [Act.put, List.setIfInBounds_toArray, List.set_cons_zero, List.set_cons_succ]
            refine take_at 25 (by kernel_rfl) (by kernel_rfl) (by kernel_rfl) (by kernel_rfl) hS5 (fun oi hoi => ?_)
            simp only [List.getElem?_toArray, List.getElem?_cons_succ, List.getElem?_cons_zero, Option.some.injEq] at hoi
            subst hoi
            refine ⟨?_, fun _ _ _ h => h, Or.inl ⟨by rfl, ?_⟩, ?_⟩
            rotate_left
            · (intro w hSw; (try dsimp only at hSw); go_simp <;> with_reducible rfl)
            simp only [Act.put, List.setIfInBounds_toArray, List.set_cons_zero, List.set_cons_succ]
            refine take_at 26 (by kernel_rfl) (by kernel_rfl) (by kernel_rfl) (by kernel_rfl) hS5 (fun oi hoi => ?_)
            simp only [List.getElem?_toArray, List.getElem?_cons_succ, List.getElem?_cons_zero, Option.some.injEq] at hoi
            subst hoi
            refine ⟨?_, fun _ _ _ h => h, Or.inl ⟨by rfl, ?_⟩, ?_⟩
            rotate_left
            · (intro w hSw; (try dsimp only at hSw); go_simp <;> with_reducible rfl)
            simp only [Act.put, List.setIfInBounds_toArray, List.set_cons_zero, List.set_cons_succ]
            refine take_at 27 (by kernel_rfl) (by kernel_rfl) (by kernel_rfl) (by kernel_rfl) hS5 (fun oi hoi => ?_)
            simp only [List.getElem?_toArray, List.getElem?_cons_succ, List.getElem?_cons_zero, Option.some.injEq] at hoi
            subst hoi
            refine ⟨?_, fun _ _ _ h => h, Or.inl ⟨by rfl, ?_⟩, ?_⟩
            rotate_left
            · (intro w hSw; (try dsimp only at hSw); go_simp <;> with_reducible rfl)
            simp only [Act.put, List.setIfInBounds_toArray, List.set_cons_zero, List.set_cons_succ]
            refine wpAnyH_done (by kernel_rfl) ?_ _
            go_wp2
            go_meet
            exact ⟨rfl, HR⟩
          case rest =>
            obtain ⟨rfl, HR⟩ := hcut
            obtain ⟨B, L, pos, lk⟩ := HR.out.look
            have h2 := lk.h2
            have f2 := lk.f2
            have b1 := lk.lt
            have b2 := lk.le
            have HN := hid lk.step
            clear lk
            go_wp2
            go_roundg (n - (p + 1))
            case measure => omega
            case rel => exact ⟨p + 1, rfl, by omega, (runTo_step hp (by simp [isd, h48, h57])).symm.trans hrun, HN⟩
        · have hd2 : decide (D p ≤ 57) = false := decide_eq_false h57
          go_upto_region 6 with fail
          go_cut [54] from 27 to 61 (fun s54 wc => s54 = .bool false ∧ Hid (At w0 R S d n D x p wc))
          case first =>
            refine wp_region_any (by kernel_rfl) ?_
            change wpAny _ _ _ _ _ _ _ (World.drew _)
            refine wpAny_take (i := 0) (v := ?_) rfl (by kernel_rfl) (by kernel_rfl) (by kernel_rfl) (fun _ _ _ h => h) (Or.inl ⟨by rfl, ?_⟩) ?_
            rotate_left
            · (intro w; go_simp <;> with_reducible rfl)
            simp only [Act.put, List.setIfInBounds_toArray, List.set_cons_zero, List.set_cons_succ]
            refine wpAny_ready (rs := [1]) (by kernel_rfl) (by simp) ?_
            refine AllReady.cons rfl (fun K hK => ?_) AllReady.nil
            go_simp
            refine (need_yes w0 R S d n D x p _ ?_ hg hp).mono ?_
            · exact HA.out.keep (Chg.refl _ _).drew
            rintro e w3 ⟨rfl, hR⟩
            have HR := hid hR
            obtain ⟨B, L, pos, lk⟩ := hR.look
            have h1 := lk.h1
            have h2 := lk.h2
            have hbb := lk.hb
            have b1 := lk.lt
            have b2 := lk.le
            clear lk hR
            go_wp2
            refine wpAny_of_held (S := fun w' => w'.cell? ⟨R, 1, none⟩ = some (.slice (some ⟨B, 0, none⟩) L L) ∧ w'.cell? ⟨R, 2, none⟩ = some (.int .i64 pos) ∧ w'.cell? ⟨B, pos, none⟩ = some (.int .u8 (D p))) _ _ _ _ ?_
            have hS5 := And.intro h1 (And.intro h2 hbb)
            refine take_at 2 (by kernel_rfl) (by kernel_rfl) (by kernel_rfl) (by kernel_rfl) hS5 (fun oi hoi => ?_)
            simp only [List.getElem?_toArray, List.getElem?_cons_succ, List.getElem?_cons_zero, Option.some.injEq] at hoi
            subst hoi
            refine ⟨?_, fun _ _ _ h => h, Or.inl ⟨by rfl, ?_⟩, ?_⟩
            rotate_left
            · (intro w hSw; (try dsimp only at hSw); go_simp <;> with_reducible rfl)
            simp only [Act.put, List.setIfInBounds_toArray, List.set_cons_zero, List.set_cons_succ]
            refine take_at 3 (by kernel_rfl) (by kernel_rfl) (by kernel_rfl) (by kernel_rfl) hS5 (fun oi hoi => ?_)
            simp only [List.getElem?_toArray, List.getElem?_cons_succ, List.getElem?_cons_zero, Option.some.injEq] at hoi
            subst hoi
            refine ⟨?_, fun _ _ _ h => h, Or.inl ⟨by rfl, ?_⟩, ?_⟩
            rotate_left
            · (intro w hSw; (try dsimp only at hSw); go_simp <;> with_reducible rfl)
            simp only [Act.put, List.setIfInBounds_toArray, List.set_cons_zero, List.set_cons_succ]
            refine take_at 4 (by kernel_rfl) (by kernel_rfl) (by kernel_rfl) (by kernel_rfl) hS5 (fun oi hoi => ?_)
            simp only [List.getElem?_toArray, List.getElem?_cons_succ, List.getElem?_cons_zero, Option.some.injEq] at hoi
            subst hoi
            refine ⟨?_, fun _ _ _ h => h, Or.inl ⟨by rfl, ?_⟩, ?_⟩
            rotate_left
            · (intro w hSw; (try dsimp only at hSw); go_simp <;> with_reducible rfl)
            simp only [Act.put, List.setIfInBounds_toArray, List.set_cons_zero, List.set_cons_succ]
            refine take_at 5 (by kernel_rfl) (by kernel_rfl) (by kernel_rfl) (by kernel_rfl) hS5 (fun oi hoi => ?_)
            simp only [List.getElem?_toArray, List.getElem?_cons_succ, List.getElem?_cons_zero, Option.some.injEq] at hoi
            subst hoi
            refine ⟨?_, fun _ _ _ h => h, Or.inl ⟨by rfl, ?_⟩, ?_⟩
            rotate_left
            · (intro w hSw; (try dsimp only at hSw); go_simp <;> with_reducible rfl)
            simp only [Act.put, List.setIfInBounds_toArray, List.set_cons_zero, List.set_cons_succ]
            refine take_at 6 (by kernel_rfl) (by kernel_rfl) (by kernel_rfl) (by kernel_rfl) hS5 (fun oi hoi => ?_)
            simp only [List.getElem?_toArray, List.getElem?_cons_succ, List.getElem?_cons_zero, Option.some.injEq] at hoi
            subst hoi
            refine ⟨?_, fun _ _ _ h => h, Or.inl ⟨by rfl, ?_⟩, ?_⟩
            rotate_left
            · (intro w hSw; (try dsimp only at hSw); go_simp <;> with_reducible rfl)
            simp only [Act.put, List.setIfInBounds_toArray, List.set_cons_zero, List.set_cons_succ]
            refine take_at 7 (by kernel_rfl) (by kernel_rfl) (by kernel_rfl) (by kernel_rfl) hS5 (fun oi hoi => ?_)
            simp only [List.getElem?_toArray, List.getElem?_cons_succ, List.getElem?_cons_zero, Option.some.injEq] at hoi
            subst hoi
            refine ⟨?_, fun _ _ _ h => h, Or.inl ⟨by rfl, ?_⟩, ?_⟩
            rotate_left
            · (intro w hSw; (try dsimp only at hSw); go_simp <;> with_reducible rfl)
            simp only [Act.put, List.setIfInBounds_toArray, List.set_cons_zero, List.set_cons_succ]
            refine take_at 8 (by kernel_rfl) (by kernel_rfl) (by kernel_rfl) (by kernel_rfl) hS5 (fun oi hoi => ?_)
            simp only [List.getElem?_toArray, List.getElem?_cons_succ, List.getElem?_cons_zero, Option.some.injEq] at hoi
            subst hoi
            refine ⟨?_, fun _ _ _ h => h, Or.inl ⟨by rfl, ?_⟩, ?_⟩
            rotate_left
            · (intro w hSw; (try dsimp only at hSw); go_simp <;> with_reducible rfl)
            simp only [Act.put, List.setIfInBounds_toArray, List.set_cons_zero, List.set_cons_succ]
            refine take_at 9 (by kernel_rfl) (by kernel_rfl) (by kernel_rfl) (by kernel_rfl) hS5 (fun oi hoi => ?_)
            simp only [List.getElem?_toArray, List.getElem?_cons_succ, List.getElem?_cons_zero, Option.some.injEq] at hoi
            subst hoi
            refine ⟨?_, fun _ _ _ h => h, Or.inl ⟨by rfl, ?_⟩, ?_⟩
            rotate_left
            · (intro w hSw; (try dsimp only at hSw); go_simp <;> with_reducible rfl)
            simp only [Act.put, List.setIfInBounds_toArray, List.set_cons_zero, List.set_cons_succ]
            refine take_at 10 (by kernel_rfl) (by kernel_rfl) (by kernel_rfl) (by kernel_rfl) hS5 (fun oi hoi => ?_)
            simp only [List.getElem?_toArray, List.getElem?_cons_succ, List.getElem?_cons_zero, Option.some.injEq] at hoi
            subst hoi
            refine ⟨?_, fun _ _ _ h => h, Or.inl ⟨by rfl, ?_⟩, ?_⟩
            rotate_left
            · (intro w hSw; (try dsimp only at hSw); go_simp <;> with_reducible rfl)
            simp only [Act.put, List.setIfInBounds_toArray, List.set_cons_zero, List.set_cons_succ]
            refine take_at 11 (by kernel_rfl) (by kernel_rfl) (by kernel_rfl) (by kernel_rfl) hS5 (fun oi hoi => ?_)
            simp only [List.getElem?_toArray, List.getElem?_cons_succ, List.getElem?_cons_zero, Option.some.injEq] at hoi
            subst hoi
            refine ⟨?_, fun _ _ _ h => h, Or.inl ⟨by rfl, ?_⟩, ?_⟩
            rotate_left
            · (intro w hSw; (try dsimp only at hSw); go_simp <;> with_reducible rfl)
            simp only [Act.put, List.setIfInBounds_toArray, List.set_cons_zero, List.set_cons_succ]
            refine take_at 12 (by kernel_rfl) (by kernel_rfl) (by kernel_rfl) (by kernel_rfl) hS5 (fun oi hoi => ?_)
            simp only [List.getElem?_toArray, List.getElem?_cons_succ, List.getElem?_cons_zero, Option.some.injEq] at hoi
            subst hoi
            refine ⟨?_, fun _ _ _ h => h, Or.inl ⟨by rfl, ?_⟩, ?_⟩
            rotate_left
            · (intro w hSw; (try dsimp only at hSw); go_simp <;> with_reducible rfl)
            simp only [Act.put, List.setIfInBounds_toArray, List.set_cons_zero, List.set_cons_succ]
            refine take_at 13 (by kernel_rfl) (by kernel_rfl) (by kernel_rfl) (by kernel_rfl) hS5 (fun oi hoi => ?_)
            simp only [List.getElem?_toArray, List.getElem?_cons_succ, List.getElem?_cons_zero, Option.some.injEq] at hoi
            subst hoi
            refine ⟨?_, fun _ _ _ h => h, Or.inl ⟨by rfl, ?_⟩, ?_⟩
            rotate_left
            · (intro w hSw; (try dsimp only at hSw); go_simp <;> with_reducible rfl)
            simp only [Act.put, List.setIfInBounds_toArray, List.set_cons_zero, List.set_cons_succ]
            refine take_at 14 (by kernel_rfl) (by kernel_rfl) (by kernel_rfl) (by kernel_rfl) hS5 (fun oi hoi => ?_)
            simp only [List.getElem?_toArray, List.getElem?_cons_succ, List.getElem?_cons_zero, Option.some.injEq] at hoi
            subst hoi
            refine ⟨?_, fun _ _ _ h => h, Or.inl ⟨by rfl, ?_⟩, ?_⟩
            rotate_left
            · (intro w hSw; (try dsimp only at hSw); go_simp <;> with_reducible rfl)
            simp only [Act.put, List.setIfInBounds_toArray, List.set_cons_zero, List.set_cons_succ]
            refine take_at 15 (by kernel_rfl) (by kernel_rfl) (by kernel_rfl) (by kernel_rfl) hS5 (fun oi hoi => ?_)
            simp only [List.getElem?_toArray, List.getElem?_cons_succ, List.getElem?_cons_zero, Option.some.injEq] at hoi
            subst hoi
            refine ⟨?_, fun _ _ _ h => h, Or.inl ⟨by rfl, ?_⟩, ?_⟩
            rotate_left
            · (intro w hSw; (try dsimp only at hSw); go_simp <;> with_reducible rfl)
            simp only [Act.put, List.setIfInBounds_toArray, List.set_cons_zero, List.set_cons_succ]
            refine take_at 16 (by kernel_rfl) (by kernel_rfl) (by kernel_rfl) (by kernel_rfl) hS5 (fun oi hoi => ?_)
            simp only [List.getElem?_toArray, List.getElem?_cons_succ, List.getElem?_cons_zero, Option.some.injEq] at hoi
            subst hoi
            refine ⟨?_, fun _ _ _ h => h, Or.inl ⟨by rfl, ?_⟩, ?_⟩
            rotate_left
            · (intro w hSw; (try dsimp only at hSw); go_simp <;> with_reducible rfl)
            simp only [Act.put, List.setIfInBounds_toArray, List.set_cons_zero, List.set_cons_succ]
            refine take_at 17 (by kernel_rfl) (by kernel_rfl) (by kernel_rfl) (by kernel_rfl) hS5 (fun oi hoi => ?_)
            simp only [List.getElem?_toArray, List.getElem?_cons_succ, List.getElem?_cons_zero, Option.some.injEq] at hoi
            subst hoi
            refine ⟨?_, fun _ _ _ h => h, Or.inl ⟨by rfl, ?_⟩, ?_⟩
            rotate_left
            · (intro w hSw; (try dsimp only at hSw); go_simp <;> with_reducible rfl)
            simp only [Act.put, List.setIfInBounds_toArray, List.set_cons_zero, List.set_cons_succ]
            refine take_at 18 (by kernel_rfl) (by kernel_rfl) (by kernel_rfl) (by kernel_rfl) hS5 (fun oi hoi => ?_)
            simp only [List.getElem?_toArray, List.getElem?_cons_succ, List.getElem?_cons_zero, Option.some.injEq] at hoi
            subst hoi
            refine ⟨?_, fun _ _ _ h => h, Or.inl ⟨by rfl, ?_⟩, ?_⟩
            rotate_left
            · (intro w hSw; (try dsimp only at hSw); go_simp <;> with_reducible rfl)
            simp only [Act.put, List.setIfInBounds_toArray, List.set_cons_zero, List.set_cons_succ]
            refine take_at 19 (by kernel_rfl) (by kernel_rfl) (by kernel_rfl) (by kernel_rfl) hS5 (fun oi hoi => ?_)
            simp only [List.getElem?_toArray, List.getElem?_cons_succ, List.getElem?_cons_zero, Option.some.injEq] at hoi
            subst hoi
            refine ⟨?_, fun _ _ _ h => h, Or.inl ⟨by rfl, ?_⟩, ?_⟩
            rotate_left
            · (intro w hSw; (try dsimp only at hSw); go_simp <;> with_reducible rfl)
            simp only [Act.put, List.setIfInBounds_toArray, List.set_cons_zero, List.set_cons_succ]
            refine take_at 20 (by kernel_rfl) (by kernel_rfl) (by kernel_rfl) (by kernel_rfl) hS5 (fun oi hoi => ?_)
            simp only [List.getElem?_toArray, List.getElem?_cons_succ, List.getElem?_cons_zero, Option.some.injEq] at hoi
            subst hoi
            refine ⟨?_, fun _ _ _ h => h, Or.inl ⟨by rfl, ?_⟩, ?_⟩
            rotate_left
            · (intro w hSw; (try dsimp only at hSw); go_simp <;> with_reducible rfl)
            simp only [Act.put, List.setIfInBounds_toArray, List.set_cons_zero, List.set_cons_succ]
            refine take_at 21 (by kernel_rfl) (by kernel_rfl) (by kernel_rfl) (by kernel_rfl) hS5 (fun oi hoi => ?_)
            simp only [List.getElem?_toArray, List.getElem?_cons_succ, List.getElem?_cons_zero, Option.some.injEq] at hoi
            subst hoi
            refine ⟨?_, fun _ _ _ h => h, Or.inl ⟨by rfl, ?_⟩, ?_⟩
            rotate_left
            · (intro w hSw; (try dsimp only at hSw); go_simp <;> with_reducible rfl)
            simp only [Act.put, List.setIfInBounds_toArray, List.set_cons_zero, List.set_cons_succ]
            refine take_at 22 (by kernel_rfl) (by kernel_rfl) (by kernel_rfl) (by kernel_rfl) hS5 (fun oi hoi => ?_)
            simp only [List.getElem?_toArray, List.getElem?_cons_succ, List.getElem?_cons_zero, Option.some.injEq] at hoi
            subst hoi
            refine ⟨?_, fun _ _ _ h => h, Or.inl ⟨by rfl, ?_⟩, ?_⟩
            rotate_left
            · (intro w hSw; (try dsimp only at hSw); go_simp <;> with_reducible rfl)
            simp only [Act.put, List.setIfInBounds_toArray, List.set_cons_zero, List.set_cons_succ]
            refine take_at 23 (by kernel_rfl) (by kernel_rfl) (by kernel_rfl) (by kernel_rfl) hS5 (fun oi hoi => ?_)
            simp only [List.getElem?_toArray, List.getElem?_cons_succ, List.getElem?_cons_zero, Option.some.injEq] at hoi
            subst hoi
            refine ⟨?_, fun _ _ _ h => h, Or.inl ⟨by rfl, ?_⟩, ?_⟩
            rotate_left
            · (intro w hSw; (try dsimp only at hSw); go_simp <;> with_reducible rfl)
            simp only [Act.put, List.setIfInBounds_toArray, List.set_cons_zero, List.set_cons_succ]
            refine take_at 24 (by kernel_rfl) (by kernel_rfl) (by kernel_rfl) (by kernel_rfl) hS5 (fun oi hoi => ?_)
            simp only [List.getElem?_toArray, List.getElem?_cons_succ, List.getElem?_cons_zero, Option.some.injEq] at hoi
            subst hoi
            refine ⟨?_, fun _ _ _ h => h, Or.inl ⟨by rfl, ?_⟩, ?_⟩
            rotate_left
            · (intro w hSw; (try dsimp only at hSw); go_simp <;> with_reducible rfl)
            simp only [Act.put, List.setIfInBounds_toArray, List.set_cons_zero, List.set_cons_succ]
            refine take_at 25 (by kernel_rfl) (by kernel_rfl) (by kernel_rfl) (by kernel_rfl) hS5 (fun oi hoi => ?_)
            simp only [List.getElem?_toArray, List.getElem?_cons_succ, List.getElem?_cons_zero, Option.some.injEq] at hoi
            subst hoi
            refine ⟨?_, fun _ _ _ h => h, Or.inl ⟨by rfl, ?_⟩, ?_⟩
            rotate_left
            · (intro w hSw; (try dsimp only at hSw); go_simp <;> with_reducible rfl)
            simp only [Act.put, List.setIfInBounds_toArray, List.set_cons_zero, List.set_cons_succ]
            refine take_at 26 (by kernel_rfl) (by kernel_rfl) (by kernel_rfl) (by kernel_rfl) hS5 (fun oi hoi => ?_)
            simp only [List.getElem?_toArray, List.getElem?_cons_succ, List.getElem?_cons_zero, Option.some.injEq] at hoi
            subst hoi
            refine ⟨?_, fun _ _ _ h => h, Or.inl ⟨by rfl, ?_⟩, ?_⟩
            rotate_left
            · (intro w hSw; (try dsimp only at hSw); go_simp <;> with_reducible rfl)
            simp only [Act.put, List.setIfInBounds_toArray, List.set_cons_zero, List.set_cons_succ]
            refine take_at 27 (by kernel_rfl) (by kernel_rfl) (by kernel_rfl) (by kernel_rfl) hS5 (fun oi hoi => ?_)
            simp only [List.getElem?_toArray, List.getElem?_cons_succ, List.getElem?_cons_zero, Option.some.injEq] at hoi
            subst hoi
            refine ⟨?_, fun _ _ _ h => h, Or.inl ⟨by rfl, ?_⟩, ?_⟩
            rotate_left
            · (intro w hSw; (try dsimp only at hSw); go_simp <;> with_reducible rfl)
            simp only [Act.put, List.setIfInBounds_toArray, List.set_cons_zero, List.set_cons_succ]
            refine wpAnyH_done (by kernel_rfl) ?_ _
            go_wp2
            go_meet
            exact ⟨rfl, hid HR.out.at⟩
          case rest =>
            obtain ⟨rfl, HR⟩ := hcut
            go_wp2
            go_ret
            refine ⟨rfl, ?_⟩
            rw [← hrun, runTo_of_not (by simp [isd]; omega)]
            exact HR.out
      · have hd1 : decide (48 ≤ D p) = false := decide_eq_false h48
        go_upto_region 6 with fail
        go_cut [54] from 27 to 61 (fun s54 wc => s54 = .bool false ∧ Hid (At w0 R S d n D x p wc))
        case first =>
          refine wp_region_any (by kernel_rfl) ?_
          change wpAny _ _ _ _ _ _ _ (World.drew _)
          refine wpAny_take (i := 0) (v := ?_) rfl (by kernel_rfl) (by kernel_rfl) (by kernel_rfl) (fun _ _ _ h => h) (Or.inl ⟨by rfl, ?_⟩) ?_
          rotate_left
          · (intro w; go_simp <;> with_reducible rfl)
          simp only [Act.put, List.setIfInBounds_toArray, List.set_cons_zero, List.set_cons_succ]
          refine wpAny_ready (rs := [1]) (by kernel_rfl) (by simp) ?_
          refine AllReady.cons rfl (fun K hK => ?_) AllReady.nil
          go_simp
          refine (need_yes w0 R S d n D x p _ ?_ hg hp).mono ?_
          · exact HA.out.keep (Chg.refl _ _).drew
          rintro e w3 ⟨rfl, hR⟩
          have HR := hid hR
          obtain ⟨B, L, pos, lk⟩ := hR.look
          have h1 := lk.h1
          have h2 := lk.h2
          have hbb := lk.hb
          have b1 := lk.lt
          have b2 := lk.le
          clear lk hR
          go_wp2
          refine wpAny_of_held (S := fun w' => w'.cell? ⟨R, 1, none⟩ = some (.slice (some ⟨B, 0, none⟩) L L) ∧ w'.cell? ⟨R, 2, none⟩ = some (.int .i64 pos) ∧ w'.cell? ⟨B, pos, none⟩ = some (.int .u8 (D p))) _ _ _ _ ?_
          have hS5 := And.intro h1 (And.intro h2 hbb)
          refine take_at 2 (by kernel_rfl) (by kernel_rfl) (by kernel_rfl) (by kernel_rfl) hS5 (fun oi hoi => ?_)
          simp only [List.getElem?_toArray, List.getElem?_cons_succ, List.getElem?_cons_zero, Option.some.injEq] at hoi
          subst hoi
          refine ⟨?_, fun _ _ _ h => h, Or.inl ⟨by rfl, ?_⟩, ?_⟩
          rotate_left
          · (intro w hSw; (try dsimp only at hSw); go_simp <;> with_reducible rfl)
          simp only [Act.put, List.setIfInBounds_toArray, List.set_cons_zero, List.set_cons_succ]
          refine take_at 3 (by kernel_rfl) (by kernel_rfl) (by kernel_rfl) (by kernel_rfl) hS5 (fun oi hoi => ?_)
          simp only [List.getElem?_toArray, List.getElem?_cons_succ, List.getElem?_cons_zero, Option.some.injEq] at hoi
          subst hoi
          refine ⟨?_, fun _ _ _ h => h, Or.inl ⟨by rfl, ?_⟩, ?_⟩
          rotate_left
          · (intro w hSw; (try dsimp only at hSw); go_simp <;> with_reducible rfl)
          simp only [Act.put, List.setIfInBounds_toArray, List.set_cons_zero, List.set_cons_succ]
          refine take_at 4 (by kernel_rfl) (by kernel_rfl) (by kernel_rfl) (by kernel_rfl) hS5 (fun oi hoi => ?_)
          simp only [List.getElem?_toArray, List.getElem?_cons_succ, List.getElem?_cons_zero, Option.some.injEq] at hoi
          subst hoi
          refine ⟨?_, fun _ _ _ h => h, Or.inl ⟨by rfl, ?_⟩, ?_⟩
          rotate_left
          · (intro w hSw; (try dsimp only at hSw); go_simp <;> with_reducible rfl)
          simp only [Act.put, List.setIfInBounds_toArray, List.set_cons_zero, List.set_cons_succ]
          refine take_at 5 (by kernel_rfl) (by kernel_rfl) (by kernel_rfl) (by kernel_rfl) hS5 (fun oi hoi => ?_)
          simp only [List.getElem?_toArray, List.getElem?_cons_succ, List.getElem?_cons_zero, Option.some.injEq] at hoi
          subst hoi
          refine ⟨?_, fun _ _ _ h => h, Or.inl ⟨by rfl, ?_⟩, ?_⟩
          rotate_left
          · (intro w hSw; (try dsimp only at hSw); go_simp <;> with_reducible rfl)
          simp only [Act.put, List.setIfInBounds_toArray, List.set_cons_zero, List.set_cons_succ]
          refine take_at 6 (by kernel_rfl) (by kernel_rfl) (by kernel_rfl) (by kernel_rfl) hS5 (fun oi hoi => ?_)
          simp only [List.getElem?_toArray, List.getElem?_cons_succ, List.getElem?_cons_zero, Option.some.injEq] at hoi
          subst hoi
          refine ⟨?_, fun _ _ _ h => h, Or.inl ⟨by rfl, ?_⟩, ?_⟩
          rotate_left
          · (intro w hSw; (try dsimp only at hSw); go_simp <;> with_reducible rfl)
          simp only [Act.put, List.setIfInBounds_toArray, List.set_cons_zero, List.set_cons_succ]
          refine take_at 7 (by kernel_rfl) (by kernel_rfl) (by kernel_rfl) (by kernel_rfl) hS5 (fun oi hoi => ?_)
          simp only [List.getElem?_toArray, List.getElem?_cons_succ, List.getElem?_cons_zero, Option.some.injEq] at hoi
          subst hoi
          refine ⟨?_, fun _ _ _ h => h, Or.inl ⟨by rfl, ?_⟩, ?_⟩
          rotate_left
          · (intro w hSw; (try dsimp only at hSw); go_simp <;> with_reducible rfl)
          simp only [Act.put, List.setIfInBounds_toArray, List.set_cons_zero, List.set_cons_succ]
          refine take_at 8 (by kernel_rfl) (by kernel_rfl) (by kernel_rfl) (by kernel_rfl) hS5 (fun oi hoi => ?_)
          simp only [List.getElem?_toArray, List.getElem?_cons_succ, List.getElem?_cons_zero, Option.some.injEq] at hoi
          subst hoi
          refine ⟨?_, fun _ _ _ h => h, Or.inl ⟨by rfl, ?_⟩, ?_⟩
          rotate_left
          · (intro w hSw; (try dsimp only at hSw); go_simp <;> with_reducible rfl)
          simp only [Act.put, List.setIfInBounds_toArray, List.set_cons_zero, List.set_cons_succ]
          refine take_at 9 (by kernel_rfl) (by kernel_rfl) (by kernel_rfl) (by kernel_rfl) hS5 (fun oi hoi => ?_)
          simp only [List.getElem?_toArray, List.getElem?_cons_succ, List.getElem?_cons_zero, Option.some.injEq] at hoi
          subst hoi
          refine ⟨?_, fun _ _ _ h => h, Or.inl ⟨by rfl, ?_⟩, ?_⟩
          rotate_left
          · (intro w hSw; (try dsimp only at hSw); go_simp <;> with_reducible rfl)
          simp only [Act.put, List.setIfInBounds_toArray, List.set_cons_zero, List.set_cons_succ]
          refine take_at 10 (by kernel_rfl) (by kernel_rfl) (by kernel_rfl) (by kernel_rfl) hS5 (fun oi hoi => ?_)
          simp only [List.getElem?_toArray, List.getElem?_cons_succ, List.getElem?_cons_zero, Option.some.injEq] at hoi
          subst hoi
          refine ⟨?_, fun _ _ _ h => h, Or.inl ⟨by rfl, ?_⟩, ?_⟩
          rotate_left
          · (intro w hSw; (try dsimp only at hSw); go_simp <;> with_reducible rfl)
          simp only [Act.put, List.setIfInBounds_toArray, List.set_cons_zero, List.set_cons_succ]
          refine take_at 11 (by kernel_rfl) (by kernel_rfl) (by kernel_rfl) (by kernel_rfl) hS5 (fun oi hoi => ?_)
          simp only [List.getElem?_toArray, List.getElem?_cons_succ, List.getElem?_cons_zero, Option.some.injEq] at hoi
          subst hoi
          refine ⟨?_, fun _ _ _ h => h, Or.inl ⟨by rfl, ?_⟩, ?_⟩
          rotate_left
          · (intro w hSw; (try dsimp only at hSw); go_simp <;> with_reducible rfl)
          simp only [Act.put, List.setIfInBounds_toArray, List.set_cons_zero, List.set_cons_succ]
          refine take_at 12 (by kernel_rfl) (by kernel_rfl) (by kernel_rfl) (by kernel_rfl) hS5 (fun oi hoi => ?_)
          simp only [List.getElem?_toArray, List.getElem?_cons_succ, List.getElem?_cons_zero, Option.some.injEq] at hoi
          subst hoi
          refine ⟨?_, fun _ _ _ h => h, Or.inl ⟨by rfl, ?_⟩, ?_⟩
          rotate_left
          · (intro w hSw; (try dsimp only at hSw); go_simp <;> with_reducible rfl)
          simp only [Act.put, List.setIfInBounds_toArray, List.set_cons_zero, List.set_cons_succ]
          refine take_at 13 (by kernel_rfl) (by kernel_rfl) (by kernel_rfl) (by kernel_rfl) hS5 (fun oi hoi => ?_)
          simp only [List.getElem?_toArray, List.getElem?_cons_succ, List.getElem?_cons_zero, Option.some.injEq] at hoi
          subst hoi
          refine ⟨?_, fun _ _ _ h => h, Or.inl ⟨by rfl, ?_⟩, ?_⟩
          rotate_left
          · (intro w hSw; (try dsimp only at hSw); go_simp <;> with_reducible rfl)
          simp only [Act.put, List.setIfInBounds_toArray, List.set_cons_zero, List.set_cons_succ]
          refine take_at 14 (by kernel_rfl) (by kernel_rfl) (by kernel_rfl) (by kernel_rfl) hS5 (fun oi hoi => ?_)
          simp only [List.getElem?_toArray, List.getElem?_cons_succ, List.getElem?_cons_zero, Option.some.injEq] at hoi
          subst hoi
          refine ⟨?_, fun _ _ _ h => h, Or.inl ⟨by rfl, ?_⟩, ?_⟩
          rotate_left
          · (intro w hSw; (try dsimp only at hSw); go_simp <;> with_reducible rfl)
          simp only [Act.put, List.setIfInBounds_toArray, List.set_cons_zero, List.set_cons_succ]
          refine take_at 15 (by kernel_rfl) (by kernel_rfl) (by kernel_rfl) (by kernel_rfl) hS5 (fun oi hoi => ?_)
          simp only [List.getElem?_toArray, List.getElem?_cons_succ, List.getElem?_cons_zero, Option.some.injEq] at hoi
          subst hoi
          refine ⟨?_, fun _ _ _ h => h, Or.inl ⟨by rfl, ?_⟩, ?_⟩
          rotate_left
          · (intro w hSw; (try dsimp only at hSw); go_simp <;> with_reducible rfl)
          simp only [Act.put, List.setIfInBounds_toArray, List.set_cons_zero, List.set_cons_succ]
          refine take_at 16 (by kernel_rfl) (by kernel_rfl) (by kernel_rfl) (by kernel_rfl) hS5 (fun oi hoi => ?_)
          simp only [List.getElem?_toArray, List.getElem?_cons_succ, List.getElem?_cons_zero, Option.some.injEq] at hoi
          subst hoi
          refine ⟨undef, fun _ _ _ h => h, Or.inr ⟨by rfl, rfl⟩, ?_⟩
          simp only [Act.put, List.setIfInBounds_toArray, List.set_cons_zero, List.set_cons_succ]
          refine take_at 17 (by kernel_rfl) (by kernel_rfl) (by kernel_rfl) (by kernel_rfl) hS5 (fun oi hoi => ?_)
          simp only [List.getElem?_toArray, List.getElem?_cons_succ, List.getElem?_cons_zero, Option.some.injEq] at hoi
          subst hoi
          refine ⟨undef, fun _ _ _ h => h, Or.inr ⟨by rfl, rfl⟩, ?_⟩
          simp only [Act.put, List.setIfInBounds_toArray, List.set_cons_zero, List.set_cons_succ]
          refine take_at 18 (by kernel_rfl) (by kernel_rfl) (by kernel_rfl) (by kernel_rfl) hS5 (fun oi hoi => ?_)
          simp only [List.getElem?_toArray, List.getElem?_cons_succ, List.getElem?_cons_zero, Option.some.injEq] at hoi
          subst hoi
          refine ⟨undef, fun _ _ _ h => h, Or.inr ⟨by rfl, rfl⟩, ?_⟩
          simp only [Act.put, List.setIfInBounds_toArray, List.set_cons_zero, List.set_cons_succ]
          refine take_at 19 (by kernel_rfl) (by kernel_rfl) (by kernel_rfl) (by kernel_rfl) hS5 (fun oi hoi => ?_)
          simp only [List.getElem?_toArray, List.getElem?_cons_succ, List.getElem?_cons_zero, Option.some.injEq] at hoi
          subst hoi
          refine ⟨undef, fun _ _ _ h => h, Or.inr ⟨by rfl, rfl⟩, ?_⟩
          simp only [Act.put, List.setIfInBounds_toArray, List.set_cons_zero, List.set_cons_succ]
          refine take_at 20 (by kernel_rfl) (by kernel_rfl) (by kernel_rfl) (by kernel_rfl) hS5 (fun oi hoi => ?_)
          simp only [List.getElem?_toArray, List.getElem?_cons_succ, List.getElem?_cons_zero, Option.some.injEq] at hoi
          subst hoi
          refine ⟨undef, fun _ _ _ h => h, Or.inr ⟨by rfl, rfl⟩, ?_⟩
          simp only [Act.put, List.setIfInBounds_toArray, List.set_cons_zero, List.set_cons_succ]
          refine take_at 21 (by kernel_rfl) (by kernel_rfl) (by kernel_rfl) (by kernel_rfl) hS5 (fun oi hoi => ?_)
          simp only [List.getElem?_toArray, List.getElem?_cons_succ, List.getElem?_cons_zero, Option.some.injEq] at hoi
          subst hoi
          refine ⟨undef, fun _ _ _ h => h, Or.inr ⟨by rfl, rfl⟩, ?_⟩
          simp only [Act.put, List.setIfInBounds_toArray, List.set_cons_zero, List.set_cons_succ]
          refine take_at 22 (by kernel_rfl) (by kernel_rfl) (by kernel_rfl) (by kernel_rfl) hS5 (fun oi hoi => ?_)
          simp only [List.getElem?_toArray, List.getElem?_cons_succ, List.getElem?_cons_zero, Option.some.injEq] at hoi
          subst hoi
          refine ⟨undef, fun _ _ _ h => h, Or.inr ⟨by rfl, rfl⟩, ?_⟩
          simp only [Act.put, List.setIfInBounds_toArray, List.set_cons_zero, List.set_cons_succ]
          refine take_at 23 (by kernel_rfl) (by kernel_rfl) (by kernel_rfl) (by kernel_rfl) hS5 (fun oi hoi => ?_)
          simp only [List.getElem?_toArray, List.getElem?_cons_succ, List.getElem?_cons_zero, Option.some.injEq] at hoi
          subst hoi
          refine ⟨undef, fun _ _ _ h => h, Or.inr ⟨by rfl, rfl⟩, ?_⟩
          simp only [Act.put, List.setIfInBounds_toArray, List.set_cons_zero, List.set_cons_succ]
          refine take_at 24 (by kernel_rfl) (by kernel_rfl) (by kernel_rfl) (by kernel_rfl) hS5 (fun oi hoi => ?_)
          simp only [List.getElem?_toArray, List.getElem?_cons_succ, List.getElem?_cons_zero, Option.some.injEq] at hoi
          subst hoi
          refine ⟨undef, fun _ _ _ h => h, Or.inr ⟨by rfl, rfl⟩, ?_⟩
          simp only [Act.put, List.setIfInBounds_toArray, List.set_cons_zero, List.set_cons_succ]
          refine take_at 25 (by kernel_rfl) (by kernel_rfl) (by kernel_rfl) (by kernel_rfl) hS5 (fun oi hoi => ?_)
          simp only [List.getElem?_toArray, List.getElem?_cons_succ, List.getElem?_cons_zero, Option.some.injEq] at hoi
          subst hoi
          refine ⟨undef, fun _ _ _ h => h, Or.inr ⟨by rfl, rfl⟩, ?_⟩
          simp only [Act.put, List.setIfInBounds_toArray, List.set_cons_zero, List.set_cons_succ]
          refine take_at 26 (by kernel_rfl) (by kernel_rfl) (by kernel_rfl) (by kernel_rfl) hS5 (fun oi hoi => ?_)
          simp only [List.getElem?_toArray, List.getElem?_cons_succ, List.getElem?_cons_zero, Option.some.injEq] at hoi
          subst hoi
          refine ⟨undef, fun _ _ _ h => h, Or.inr ⟨by rfl, rfl⟩, ?_⟩
          simp only [Act.put, List.setIfInBounds_toArray, List.set_cons_zero, List.set_cons_succ]
          refine take_at 27 (by kernel_rfl) (by kernel_rfl) (by kernel_rfl) (by kernel_rfl) hS5 (fun oi hoi => ?_)
          simp only [List.getElem?_toArray, List.getElem?_cons_succ, List.getElem?_cons_zero, Option.some.injEq] at hoi
          subst hoi
          refine ⟨?_, fun _ _ _ h => h, Or.inl ⟨by rfl, ?_⟩, ?_⟩
          rotate_left
          · (intro w hSw; (try dsimp only at hSw); go_simp <;> with_reducible rfl)
          simp only [Act.put, List.setIfInBounds_toArray, List.set_cons_zero, List.set_cons_succ]
          refine wpAnyH_done (by kernel_rfl) ?_ _
          go_wp2
          go_meet
          exact ⟨rfl, hid HR.out.at⟩
        case rest =>
          obtain ⟨rfl, HR⟩ := hcut
          go_wp2
          go_ret
          refine ⟨rfl, ?_⟩
          rw [← hrun, runTo_of_not (by simp [isd]; omega)]
          exact HR.out
    · skip
      go_upto_region 6 with fail
      go_cut [54] from 27 to 61 (fun s54 wc => s54 = .bool false ∧ Hid (At w0 R S d n D x p wc))
      case first =>
        refine wp_region_any (by kernel_rfl) ?_
        change wpAny _ _ _ _ _ _ _ (World.drew _)
        refine wpAny_take (i := 0) (v := ?_) rfl (by kernel_rfl) (by kernel_rfl) (by kernel_rfl) (fun _ _ _ h => h) (Or.inl ⟨by rfl, ?_⟩) ?_
        rotate_left
        · (intro w; go_simp <;> with_reducible rfl)
        simp only [Act.put, List.setIfInBounds_toArray, List.set_cons_zero, List.set_cons_succ]
        refine wpAny_ready (rs := [1]) (by kernel_rfl) (by simp) ?_
        refine AllReady.cons rfl (fun K hK => ?_) AllReady.nil
        go_simp
        refine (need_no w0 R S d n D x p _ ?_ hg hp).mono ?_
        · exact HA.out.keep (Chg.refl _ _).drew
        rintro e w3 ⟨rfl, hR⟩
        have HR := hid hR
        clear hR
        go_wp2
        refine wpAny_of_held (S := fun _ => True) _ _ _ _ ?_
        have hS5 := True.intro
        refine take_at 2 (by kernel_rfl) (by kernel_rfl) (by kernel_rfl) (by kernel_rfl) hS5 (fun oi hoi => ?_)
        simp only [List.getElem?_toArray, List.getElem?_cons_succ, List.getElem?_cons_zero, Option.some.injEq] at hoi
        subst hoi
        refine ⟨?_, fun _ _ _ h => h, Or.inl ⟨by rfl, ?_⟩, ?_⟩
        rotate_left
        · (intro w hSw; (try dsimp only at hSw); go_simp <;> with_reducible rfl)
        simp only [Act.put, List.setIfInBounds_toArray, List.set_cons_zero, List.set_cons_succ]
        refine take_at 3 (by kernel_rfl) (by kernel_rfl) (by kernel_rfl) (by kernel_rfl) hS5 (fun oi hoi => ?_)
        simp only [List.getElem?_toArray, List.getElem?_cons_succ, List.getElem?_cons_zero, Option.some.injEq] at hoi
        subst hoi
        refine ⟨undef, fun _ _ _ h => h, Or.inr ⟨by rfl, rfl⟩, ?_⟩
        simp only [Act.put, List.setIfInBounds_toArray, List.set_cons_zero, List.set_cons_succ]
        refine take_at 4 (by kernel_rfl) (by kernel_rfl) (by kernel_rfl) (by kernel_rfl) hS5 (fun oi hoi => ?_)
        simp only [List.getElem?_toArray, List.getElem?_cons_succ, List.getElem?_cons_zero, Option.some.injEq] at hoi
        subst hoi
        refine ⟨undef, fun _ _ _ h => h, Or.inr ⟨by rfl, rfl⟩, ?_⟩
        simp only [Act.put, List.setIfInBounds_toArray, List.set_cons_zero, List.set_cons_succ]
        refine take_at 5 (by kernel_rfl) (by kernel_rfl) (by kernel_rfl) (by kernel_rfl) hS5 (fun oi hoi => ?_)
        simp only [List.getElem?_toArray, List.getElem?_cons_succ, List.getElem?_cons_zero, Option.some.injEq] at hoi
        subst hoi
        refine ⟨undef, fun _ _ _ h => h, Or.inr ⟨by rfl, rfl⟩, ?_⟩
        simp only [Act.put, List.setIfInBounds_toArray, List.set_cons_zero, List.set_cons_succ]
        refine take_at 6 (by kernel_rfl) (by kernel_rfl) (by kernel_rfl) (by kernel_rfl) hS5 (fun oi hoi => ?_)
        simp only [List.getElem?_toArray, List.getElem?_cons_succ, List.getElem?_cons_zero, Option.some.injEq] at hoi
        subst hoi
        refine ⟨undef, fun _ _ _ h => h, Or.inr ⟨by rfl, rfl⟩, ?_⟩
        simp only [Act.put, List.setIfInBounds_toArray, List.set_cons_zero, List.set_cons_succ]
        refine take_at 7 (by kernel_rfl) (by kernel_rfl) (by kernel_rfl) (by kernel_rfl) hS5 (fun oi hoi => ?_)
        simp only [List.getElem?_toArray, List.getElem?_cons_succ, List.getElem?_cons_zero, Option.some.injEq] at hoi
        subst hoi
        refine ⟨undef, fun _ _ _ h => h, Or.inr ⟨by rfl, rfl⟩, ?_⟩
        simp only [Act.put, List.setIfInBounds_toArray, List.set_cons_zero, List.set_cons_succ]
        refine take_at 8 (by kernel_rfl) (by kernel_rfl) (by kernel_rfl) (by kernel_rfl) hS5 (fun oi hoi => ?_)
        simp only [List.getElem?_toArray, List.getElem?_cons_succ, List.getElem?_cons_zero, Option.some.injEq] at hoi
        subst hoi
        refine ⟨undef, fun _ _ _ h => h, Or.inr ⟨by rfl, rfl⟩, ?_⟩
        simp only [Act.put, List.setIfInBounds_toArray, List.set_cons_zero, List.set_cons_succ]
        refine take_at 9 (by kernel_rfl) (by kernel_rfl) (by kernel_rfl) (by kernel_rfl) hS5 (fun oi hoi => ?_)
        simp only [List.getElem?_toArray, List.getElem?_cons_succ, List.getElem?_cons_zero, Option.some.injEq] at hoi
        subst hoi
        refine ⟨undef, fun _ _ _ h => h, Or.inr ⟨by rfl, rfl⟩, ?_⟩
        simp only [Act.put, List.setIfInBounds_toArray, List.set_cons_zero, List.set_cons_succ]
        refine take_at 10 (by kernel_rfl) (by kernel_rfl) (by kernel_rfl) (by kernel_rfl) hS5 (fun oi hoi => ?_)
        simp only [List.getElem?_toArray, List.getElem?_cons_succ, List.getElem?_cons_zero, Option.some.injEq] at hoi
        subst hoi
        refine ⟨undef, fun _ _ _ h => h, Or.inr ⟨by rfl, rfl⟩, ?_⟩
        simp only [Act.put, List.setIfInBounds_toArray, List.set_cons_zero, List.set_cons_succ]
        refine take_at 11 (by kernel_rfl) (by kernel_rfl) (by kernel_rfl) (by kernel_rfl) hS5 (fun oi hoi => ?_)
        simp only [List.getElem?_toArray, List.getElem?_cons_succ, List.getElem?_cons_zero, Option.some.injEq] at hoi
        subst hoi
        refine ⟨undef, fun _ _ _ h => h, Or.inr ⟨by rfl, rfl⟩, ?_⟩
        simp only [Act.put, List.setIfInBounds_toArray, List.set_cons_zero, List.set_cons_succ]
        refine take_at 12 (by kernel_rfl) (by kernel_rfl) (by kernel_rfl) (by kernel_rfl) hS5 (fun oi hoi => ?_)
        simp only [List.getElem?_toArray, List.getElem?_cons_succ, List.getElem?_cons_zero, Option.some.injEq] at hoi
        subst hoi
        refine ⟨undef, fun _ _ _ h => h, Or.inr ⟨by rfl, rfl⟩, ?_⟩
        simp only [Act.put, List.setIfInBounds_toArray, List.set_cons_zero, List.set_cons_succ]
        refine take_at 13 (by kernel_rfl) (by kernel_rfl) (by kernel_rfl) (by kernel_rfl) hS5 (fun oi hoi => ?_)
        simp only [List.getElem?_toArray, List.getElem?_cons_succ, List.getElem?_cons_zero, Option.some.injEq] at hoi
        subst hoi
        refine ⟨undef, fun _ _ _ h => h, Or.inr ⟨by rfl, rfl⟩, ?_⟩
        simp only [Act.put, List.setIfInBounds_toArray, List.set_cons_zero, List.set_cons_succ]
        refine take_at 14 (by kernel_rfl) (by kernel_rfl) (by kernel_rfl) (by kernel_rfl) hS5 (fun oi hoi => ?_)
        simp only [List.getElem?_toArray, List.getElem?_cons_succ, List.getElem?_cons_zero, Option.some.injEq] at hoi
        subst hoi
        refine ⟨?_, fun _ _ _ h => h, Or.inl ⟨by rfl, ?_⟩, ?_⟩
        rotate_left
        · (intro w hSw; (try dsimp only at hSw); go_simp <;> with_reducible rfl)
        simp only [Act.put, List.setIfInBounds_toArray, List.set_cons_zero, List.set_cons_succ]
        refine take_at 15 (by kernel_rfl) (by kernel_rfl) (by kernel_rfl) (by kernel_rfl) hS5 (fun oi hoi => ?_)
        simp only [List.getElem?_toArray, List.getElem?_cons_succ, List.getElem?_cons_zero, Option.some.injEq] at hoi
        subst hoi
        refine ⟨?_, fun _ _ _ h => h, Or.inl ⟨by rfl, ?_⟩, ?_⟩
        rotate_left
        · (intro w hSw; (try dsimp only at hSw); go_simp <;> with_reducible rfl)
        simp only [Act.put, List.setIfInBounds_toArray, List.set_cons_zero, List.set_cons_succ]
        refine take_at 16 (by kernel_rfl) (by kernel_rfl) (by kernel_rfl) (by kernel_rfl) hS5 (fun oi hoi => ?_)
        simp only [List.getElem?_toArray, List.getElem?_cons_succ, List.getElem?_cons_zero, Option.some.injEq] at hoi
        subst hoi
        refine ⟨undef, fun _ _ _ h => h, Or.inr ⟨by rfl, rfl⟩, ?_⟩
        simp only [Act.put, List.setIfInBounds_toArray, List.set_cons_zero, List.set_cons_succ]
        refine take_at 17 (by kernel_rfl) (by kernel_rfl) (by kernel_rfl) (by kernel_rfl) hS5 (fun oi hoi => ?_)
        simp only [List.getElem?_toArray, List.getElem?_cons_succ, List.getElem?_cons_zero, Option.some.injEq] at hoi
        subst hoi
        refine ⟨undef, fun _ _ _ h => h, Or.inr ⟨by rfl, rfl⟩, ?_⟩
        simp only [Act.put, List.setIfInBounds_toArray, List.set_cons_zero, List.set_cons_succ]
        refine take_at 18 (by kernel_rfl) (by kernel_rfl) (by kernel_rfl) (by kernel_rfl) hS5 (fun oi hoi => ?_)
        simp only [List.getElem?_toArray, List.getElem?_cons_succ, List.getElem?_cons_zero, Option.some.injEq] at hoi
        subst hoi
        refine ⟨undef, fun _ _ _ h => h, Or.inr ⟨by rfl, rfl⟩, ?_⟩
        simp only [Act.put, List.setIfInBounds_toArray, List.set_cons_zero, List.set_cons_succ]
        refine take_at 19 (by kernel_rfl) (by kernel_rfl) (by kernel_rfl) (by kernel_rfl) hS5 (fun oi hoi => ?_)
        simp only [List.getElem?_toArray, List.getElem?_cons_succ, List.getElem?_cons_zero, Option.some.injEq] at hoi
        subst hoi
        refine ⟨undef, fun _ _ _ h => h, Or.inr ⟨by rfl, rfl⟩, ?_⟩
        simp only [Act.put, List.setIfInBounds_toArray, List.set_cons_zero, List.set_cons_succ]
        refine take_at 20 (by kernel_rfl) (by kernel_rfl) (by kernel_rfl) (by kernel_rfl) hS5 (fun oi hoi => ?_)
        simp only [List.getElem?_toArray, List.getElem?_cons_succ, List.getElem?_cons_zero, Option.some.injEq] at hoi
        subst hoi
        refine ⟨undef, fun _ _ _ h => h, Or.inr ⟨by rfl, rfl⟩, ?_⟩
        simp only [Act.put, List.setIfInBounds_toArray, List.set_cons_zero, List.set_cons_succ]
        refine take_at 21 (by kernel_rfl) (by kernel_rfl) (by kernel_rfl) (by kernel_rfl) hS5 (fun oi hoi => ?_)
        simp only [List.getElem?_toArray, List.getElem?_cons_succ, List.getElem?_cons_zero, Option.some.injEq] at hoi
        subst hoi
        refine ⟨undef, fun _ _ _ h => h, Or.inr ⟨by rfl, rfl⟩, ?_⟩
        simp only [Act.put, List.setIfInBounds_toArray, List.set_cons_zero, List.set_cons_succ]
        refine take_at 22 (by kernel_rfl) (by kernel_rfl) (by kernel_rfl) (by kernel_rfl) hS5 (fun oi hoi => ?_)
        simp only [List.getElem?_toArray, List.getElem?_cons_succ, List.getElem?_cons_zero, Option.some.injEq] at hoi
        subst hoi
        refine ⟨undef, fun _ _ _ h => h, Or.inr ⟨by rfl, rfl⟩, ?_⟩
        simp only [Act.put, List.setIfInBounds_toArray, List.set_cons_zero, List.set_cons_succ]
        refine take_at 23 (by kernel_rfl) (by kernel_rfl) (by kernel_rfl) (by kernel_rfl) hS5 (fun oi hoi => ?_)
        simp only [List.getElem?_toArray, List.getElem?_cons_succ, List.getElem?_cons_zero, Option.some.injEq] at hoi
        subst hoi
        refine ⟨undef, fun _ _ _ h => h, Or.inr ⟨by rfl, rfl⟩, ?_⟩
        simp only [Act.put, List.setIfInBounds_toArray, List.set_cons_zero, List.set_cons_succ]
        refine take_at 24 (by kernel_rfl) (by kernel_rfl) (by kernel_rfl) (by kernel_rfl) hS5 (fun oi hoi => ?_)
        simp only [List.getElem?_toArray, List.getElem?_cons_succ, List.getElem?_cons_zero, Option.some.injEq] at hoi
        subst hoi
        refine ⟨undef, fun _ _ _ h => h, Or.inr ⟨by rfl, rfl⟩, ?_⟩
        simp only [Act.put, List.setIfInBounds_toArray, List.set_cons_zero, List.set_cons_succ]
        refine take_at 25 (by kernel_rfl) (by kernel_rfl) (by kernel_rfl) (by kernel_rfl) hS5 (fun oi hoi => ?_)
        simp only [List.getElem?_toArray, List.getElem?_cons_succ, List.getElem?_cons_zero, Option.some.injEq] at hoi
        subst hoi
        refine ⟨undef, fun _ _ _ h => h, Or.inr ⟨by rfl, rfl⟩, ?_⟩
        simp only [Act.put, List.setIfInBounds_toArray, List.set_cons_zero, List.set_cons_succ]
        refine take_at 26 (by kernel_rfl) (by kernel_rfl) (by kernel_rfl) (by kernel_rfl) hS5 (fun oi hoi => ?_)
        simp only [List.getElem?_toArray, List.getElem?_cons_succ, List.getElem?_cons_zero, Option.some.injEq] at hoi
        subst hoi
        refine ⟨undef, fun _ _ _ h => h, Or.inr ⟨by rfl, rfl⟩, ?_⟩
        simp only [Act.put, List.setIfInBounds_toArray, List.set_cons_zero, List.set_cons_succ]
        refine take_at 27 (by kernel_rfl) (by kernel_rfl) (by kernel_rfl) (by kernel_rfl) hS5 (fun oi hoi => ?_)
        simp only [List.getElem?_toArray, List.getElem?_cons_succ, List.getElem?_cons_zero, Option.some.injEq] at hoi
        subst hoi
        refine ⟨?_, fun _ _ _ h => h, Or.inl ⟨by rfl, ?_⟩, ?_⟩
        rotate_left
        · (intro w hSw; (try dsimp only at hSw); go_simp <;> with_reducible rfl)
        simp only [Act.put, List.setIfInBounds_toArray, List.set_cons_zero, List.set_cons_succ]
        refine wpAnyH_done (by kernel_rfl) ?_ _
        go_wp2
        go_meet
        exact ⟨rfl, HR⟩
      case rest =>
        obtain ⟨rfl, HR⟩ := hcut
        go_wp2
        go_ret
        refine ⟨rfl, ?_⟩
        rw [← hrun, runTo_end (by omega)]
        exact HR.out

end Go.Proofs.Qxb6616277aFmt
