/-
  zzNumber, the automaton, walked.
-/
import Derived.Test.Qxb6616277aFmtSmall
namespace Go.Proofs.Qxb6616277aFmt
open Go.RowKit Go.Deep

/-- The bytes by what the automaton asks of them. -/
theorem byte_kinds (c : Int) : c = 48 ∨ c = 45 ∨ c = 46 ∨ c = 43 ∨ c = 101 ∨ c = 69 ∨ (49 ≤ c ∧ c ≤ 57) ∨ (c ≠ 45 ∧ c ≠ 46 ∧ c ≠ 43 ∧ c ≠ 101 ∧ c ≠ 69 ∧ (c < 48 ∨ 57 < c)) := by omega

theorem step_dig {c : Int} (h : 49 ≤ c ∧ c ≤ 57) : step 0 c = some 3 ∧ step 1 c = some 3 ∧ step 2 c = none ∧ step 3 c = some 3 ∧ step 4 c = some 5 ∧ step 5 c = some 5 ∧ step 6 c = some 8 ∧ step 7 c = some 8 ∧ step 8 c = some 8 := by
  have d : isd c = true := by simp [isd]; omega
  have e : isE c = false := by simp [isE]; omega
  have h48 : ¬ c = 48 := by omega
  have h45 : ¬ c = 45 := by omega
  have h46 : ¬ c = 46 := by omega
  simp [step, d, e, h48, h45, h46]
theorem step_oth {c : Int} (h : c ≠ 45 ∧ c ≠ 46 ∧ c ≠ 43 ∧ c ≠ 101 ∧ c ≠ 69 ∧ (c < 48 ∨ 57 < c)) : ∀ t, step t c = none := fun t => by
  have d : isd c = false := by simp [isd]; omega
  have e : isE c = false := by simp [isE]; omega
  have s : isS c = false := by simp [isS]; omega
  have h48 : ¬ c = 48 := by omega
  have h45 : ¬ c = 45 := by omega
  have h46 : ¬ c = 46 := by omega
  unfold step
  split <;> simp [d, e, s, h48, h45, h46]

set_option maxHeartbeats 4000000 in
set_option maxRecDepth 100000 in
theorem zzNumber_any (b off n cp : Nat) (D : Nat → Int) (w : World) (hn : n ≤ 1048577) (hc : ∀ j, j < n → w.cell? ⟨b, off + j, none⟩ = some (.int .u8 (D j))) :
    Calls Tryf.prog 15 #[.slice (some ⟨b, off, none⟩) n cp, .int .i64 0] w fun e w' => e = .returned (.tuple #[.int .i64 (aut D n 0 0).1, .bool (acc (aut D n 0 0).2)]) ∧ w' = w := by
  have HC := hid hc
  clear hc
  generalize hR : aut D n 0 0 = R
  have HR := hid hR
  clear hR
  go_enter Tryf.func15, Tryf.ntmps15
  go_wp2
  go_loop [1, 6] (fun i s => ∃ p t : Nat, p ≤ n ∧ i = .int .i64 p ∧ s = .int .i64 t ∧ t ≤ 8 ∧ aut D n t p = R) (fun i _ => n - (intOf i).toNat)
  case atStart => exact ⟨0, 0, by omega, rfl, rfl, by omega, HR.out⟩
  case round =>
    obtain ⟨p, t, hp, rfl, rfl, ht, hA⟩ := hrel
    clear HR
    have ht9 : t = 0 ∨ t = 1 ∨ t = 2 ∨ t = 3 ∨ t = 4 ∨ t = 5 ∨ t = 6 ∨ t = 7 ∨ t = 8 := by omega
    clear ht
    by_cases hlt : p < n
    · have cb := HC.out p hlt
      clear HC
      rcases ht9 with rfl | rfl | rfl | rfl | rfl | rfl | rfl | rfl | rfl
      · rcases byte_kinds (D p) with hk | hk | hk | hk | hk | hk | hk | hk
        · rw [hk] at cb
          rw [aut_some hlt (x := 2) (by rw [hk]; decide)] at hA
          go_wp2
          go_round
          case rel => exact ⟨p + 1, 2, by omega, by go_num, rfl, by omega, hA⟩
          case measure => simp [intOf]; omega
        · rw [hk] at cb
          rw [aut_some hlt (x := 1) (by rw [hk]; decide)] at hA
          go_wp2
          go_round
          case rel => exact ⟨p + 1, 1, by omega, by go_num, rfl, by omega, hA⟩
          case measure => simp [intOf]; omega
        · rw [hk] at cb
          rw [aut_none (by rw [hk]; decide)] at hA
          subst hA
          go_wp2
          go_ret2
          exact ⟨rfl, rfl⟩
        · rw [hk] at cb
          rw [aut_none (by rw [hk]; decide)] at hA
          subst hA
          go_wp2
          go_ret2
          exact ⟨rfl, rfl⟩
        · rw [hk] at cb
          rw [aut_none (by rw [hk]; decide)] at hA
          subst hA
          go_wp2
          go_ret2
          exact ⟨rfl, rfl⟩
        · rw [hk] at cb
          rw [aut_none (by rw [hk]; decide)] at hA
          subst hA
          go_wp2
          go_ret2
          exact ⟨rfl, rfl⟩
        · have hs := step_dig hk
          rw [aut_some hlt (x := 3) (hs.1)] at hA
          clear hs
          generalize D p = c at *
          have g1 : decide (48 ≤ c) = true := decide_eq_true (by omega)
          have g2 : decide (c ≤ 57) = true := decide_eq_true (by omega)
          have e45 : (c == 45) = false := by simp; omega
          have e46 : (c == 46) = false := by simp; omega
          have e43 : (c == 43) = false := by simp; omega
          have e48 : (c == 48) = false := by simp; omega
          have e101 : (c == 101) = false := by simp; omega
          have e69 : (c == 69) = false := by simp; omega
          clear hk
          go_wp2
          go_round
          case rel => exact ⟨p + 1, 3, by omega, by go_num, rfl, by omega, hA⟩
          case measure => simp [intOf]; omega
        · have hs := step_oth hk 0
          rw [aut_none (hs)] at hA
          obtain ⟨k1, k2, k3, k4, k5, k6⟩ := hk
          clear hs
          generalize D p = c at *
          have e45 : (c == 45) = false := by simp; omega
          have e46 : (c == 46) = false := by simp; omega
          have e43 : (c == 43) = false := by simp; omega
          have e48 : (c == 48) = false := by simp; omega
          have e101 : (c == 101) = false := by simp; omega
          have e69 : (c == 69) = false := by simp; omega
          rcases k6 with k6 | k6
          · have g1 : decide (48 ≤ c) = false := decide_eq_false (by omega)
            clear k1 k2 k3 k4 k5 k6
            subst hA
            go_wp2
            go_ret2
            exact ⟨rfl, rfl⟩
          · have g1 : decide (48 ≤ c) = true := decide_eq_true (by omega)
            have g2 : decide (c ≤ 57) = false := decide_eq_false (by omega)
            clear k1 k2 k3 k4 k5 k6
            subst hA
            go_wp2
            go_ret2
            exact ⟨rfl, rfl⟩
      · rcases byte_kinds (D p) with hk | hk | hk | hk | hk | hk | hk | hk
        · rw [hk] at cb
          rw [aut_some hlt (x := 2) (by rw [hk]; decide)] at hA
          go_wp2
          go_round
          case rel => exact ⟨p + 1, 2, by omega, by go_num, rfl, by omega, hA⟩
          case measure => simp [intOf]; omega
        · rw [hk] at cb
          rw [aut_none (by rw [hk]; decide)] at hA
          subst hA
          go_wp2
          go_ret2
          exact ⟨rfl, rfl⟩
        · rw [hk] at cb
          rw [aut_none (by rw [hk]; decide)] at hA
          subst hA
          go_wp2
          go_ret2
          exact ⟨rfl, rfl⟩
        · rw [hk] at cb
          rw [aut_none (by rw [hk]; decide)] at hA
          subst hA
          go_wp2
          go_ret2
          exact ⟨rfl, rfl⟩
        · rw [hk] at cb
          rw [aut_none (by rw [hk]; decide)] at hA
          subst hA
          go_wp2
          go_ret2
          exact ⟨rfl, rfl⟩
        · rw [hk] at cb
          rw [aut_none (by rw [hk]; decide)] at hA
          subst hA
          go_wp2
          go_ret2
          exact ⟨rfl, rfl⟩
        · have hs := step_dig hk
          rw [aut_some hlt (x := 3) (hs.2.1)] at hA
          clear hs
          generalize D p = c at *
          have g1 : decide (48 ≤ c) = true := decide_eq_true (by omega)
          have g2 : decide (c ≤ 57) = true := decide_eq_true (by omega)
          have e45 : (c == 45) = false := by simp; omega
          have e46 : (c == 46) = false := by simp; omega
          have e43 : (c == 43) = false := by simp; omega
          have e48 : (c == 48) = false := by simp; omega
          have e101 : (c == 101) = false := by simp; omega
          have e69 : (c == 69) = false := by simp; omega
          clear hk
          go_wp2
          go_round
          case rel => exact ⟨p + 1, 3, by omega, by go_num, rfl, by omega, hA⟩
          case measure => simp [intOf]; omega
        · have hs := step_oth hk 1
          rw [aut_none (hs)] at hA
          obtain ⟨k1, k2, k3, k4, k5, k6⟩ := hk
          clear hs
          generalize D p = c at *
          have e45 : (c == 45) = false := by simp; omega
          have e46 : (c == 46) = false := by simp; omega
          have e43 : (c == 43) = false := by simp; omega
          have e48 : (c == 48) = false := by simp; omega
          have e101 : (c == 101) = false := by simp; omega
          have e69 : (c == 69) = false := by simp; omega
          rcases k6 with k6 | k6
          · have g1 : decide (48 ≤ c) = false := decide_eq_false (by omega)
            clear k1 k2 k3 k4 k5 k6
            subst hA
            go_wp2
            go_ret2
            exact ⟨rfl, rfl⟩
          · have g1 : decide (48 ≤ c) = true := decide_eq_true (by omega)
            have g2 : decide (c ≤ 57) = false := decide_eq_false (by omega)
            clear k1 k2 k3 k4 k5 k6
            subst hA
            go_wp2
            go_ret2
            exact ⟨rfl, rfl⟩
      · rcases byte_kinds (D p) with hk | hk | hk | hk | hk | hk | hk | hk
        · rw [hk] at cb
          rw [aut_none (by rw [hk]; decide)] at hA
          subst hA
          go_wp2
          go_ret2
          exact ⟨rfl, rfl⟩
        · rw [hk] at cb
          rw [aut_none (by rw [hk]; decide)] at hA
          subst hA
          go_wp2
          go_ret2
          exact ⟨rfl, rfl⟩
        · rw [hk] at cb
          rw [aut_some hlt (x := 4) (by rw [hk]; decide)] at hA
          go_wp2
          go_round
          case rel => exact ⟨p + 1, 4, by omega, by go_num, rfl, by omega, hA⟩
          case measure => simp [intOf]; omega
        · rw [hk] at cb
          rw [aut_none (by rw [hk]; decide)] at hA
          subst hA
          go_wp2
          go_ret2
          exact ⟨rfl, rfl⟩
        · rw [hk] at cb
          rw [aut_some hlt (x := 6) (by rw [hk]; decide)] at hA
          go_wp2
          go_round
          case rel => exact ⟨p + 1, 6, by omega, by go_num, rfl, by omega, hA⟩
          case measure => simp [intOf]; omega
        · rw [hk] at cb
          rw [aut_some hlt (x := 6) (by rw [hk]; decide)] at hA
          go_wp2
          go_round
          case rel => exact ⟨p + 1, 6, by omega, by go_num, rfl, by omega, hA⟩
          case measure => simp [intOf]; omega
        · have hs := step_dig hk
          rw [aut_none (hs.2.2.1)] at hA
          clear hs
          generalize D p = c at *
          have g1 : decide (48 ≤ c) = true := decide_eq_true (by omega)
          have g2 : decide (c ≤ 57) = true := decide_eq_true (by omega)
          have e45 : (c == 45) = false := by simp; omega
          have e46 : (c == 46) = false := by simp; omega
          have e43 : (c == 43) = false := by simp; omega
          have e48 : (c == 48) = false := by simp; omega
          have e101 : (c == 101) = false := by simp; omega
          have e69 : (c == 69) = false := by simp; omega
          clear hk
          subst hA
          go_wp2
          go_ret2
          exact ⟨rfl, rfl⟩
        · have hs := step_oth hk 2
          rw [aut_none (hs)] at hA
          obtain ⟨k1, k2, k3, k4, k5, k6⟩ := hk
          clear hs
          generalize D p = c at *
          have e45 : (c == 45) = false := by simp; omega
          have e46 : (c == 46) = false := by simp; omega
          have e43 : (c == 43) = false := by simp; omega
          have e48 : (c == 48) = false := by simp; omega
          have e101 : (c == 101) = false := by simp; omega
          have e69 : (c == 69) = false := by simp; omega
          rcases k6 with k6 | k6
          · have g1 : decide (48 ≤ c) = false := decide_eq_false (by omega)
            clear k1 k2 k3 k4 k5 k6
            subst hA
            go_wp2
            go_ret2
            exact ⟨rfl, rfl⟩
          · have g1 : decide (48 ≤ c) = true := decide_eq_true (by omega)
            have g2 : decide (c ≤ 57) = false := decide_eq_false (by omega)
            clear k1 k2 k3 k4 k5 k6
            subst hA
            go_wp2
            go_ret2
            exact ⟨rfl, rfl⟩
      · rcases byte_kinds (D p) with hk | hk | hk | hk | hk | hk | hk | hk
        · rw [hk] at cb
          rw [aut_some hlt (x := 3) (by rw [hk]; decide)] at hA
          go_wp2
          go_round
          case rel => exact ⟨p + 1, 3, by omega, by go_num, rfl, by omega, hA⟩
          case measure => simp [intOf]; omega
        · rw [hk] at cb
          rw [aut_none (by rw [hk]; decide)] at hA
          subst hA
          go_wp2
          go_ret2
          exact ⟨rfl, rfl⟩
        · rw [hk] at cb
          rw [aut_some hlt (x := 4) (by rw [hk]; decide)] at hA
          go_wp2
          go_round
          case rel => exact ⟨p + 1, 4, by omega, by go_num, rfl, by omega, hA⟩
          case measure => simp [intOf]; omega
        · rw [hk] at cb
          rw [aut_none (by rw [hk]; decide)] at hA
          subst hA
          go_wp2
          go_ret2
          exact ⟨rfl, rfl⟩
        · rw [hk] at cb
          rw [aut_some hlt (x := 6) (by rw [hk]; decide)] at hA
          go_wp2
          go_round
          case rel => exact ⟨p + 1, 6, by omega, by go_num, rfl, by omega, hA⟩
          case measure => simp [intOf]; omega
        · rw [hk] at cb
          rw [aut_some hlt (x := 6) (by rw [hk]; decide)] at hA
          go_wp2
          go_round
          case rel => exact ⟨p + 1, 6, by omega, by go_num, rfl, by omega, hA⟩
          case measure => simp [intOf]; omega
        · have hs := step_dig hk
          rw [aut_some hlt (x := 3) (hs.2.2.2.1)] at hA
          clear hs
          generalize D p = c at *
          have g1 : decide (48 ≤ c) = true := decide_eq_true (by omega)
          have g2 : decide (c ≤ 57) = true := decide_eq_true (by omega)
          have e45 : (c == 45) = false := by simp; omega
          have e46 : (c == 46) = false := by simp; omega
          have e43 : (c == 43) = false := by simp; omega
          have e48 : (c == 48) = false := by simp; omega
          have e101 : (c == 101) = false := by simp; omega
          have e69 : (c == 69) = false := by simp; omega
          clear hk
          go_wp2
          go_round
          case rel => exact ⟨p + 1, 3, by omega, by go_num, rfl, by omega, hA⟩
          case measure => simp [intOf]; omega
        · have hs := step_oth hk 3
          rw [aut_none (hs)] at hA
          obtain ⟨k1, k2, k3, k4, k5, k6⟩ := hk
          clear hs
          generalize D p = c at *
          have e45 : (c == 45) = false := by simp; omega
          have e46 : (c == 46) = false := by simp; omega
          have e43 : (c == 43) = false := by simp; omega
          have e48 : (c == 48) = false := by simp; omega
          have e101 : (c == 101) = false := by simp; omega
          have e69 : (c == 69) = false := by simp; omega
          rcases k6 with k6 | k6
          · have g1 : decide (48 ≤ c) = false := decide_eq_false (by omega)
            clear k1 k2 k3 k4 k5 k6
            subst hA
            go_wp2
            go_ret2
            exact ⟨rfl, rfl⟩
          · have g1 : decide (48 ≤ c) = true := decide_eq_true (by omega)
            have g2 : decide (c ≤ 57) = false := decide_eq_false (by omega)
            clear k1 k2 k3 k4 k5 k6
            subst hA
            go_wp2
            go_ret2
            exact ⟨rfl, rfl⟩
      · rcases byte_kinds (D p) with hk | hk | hk | hk | hk | hk | hk | hk
        · rw [hk] at cb
          rw [aut_some hlt (x := 5) (by rw [hk]; decide)] at hA
          go_wp2
          go_round
          case rel => exact ⟨p + 1, 5, by omega, by go_num, rfl, by omega, hA⟩
          case measure => simp [intOf]; omega
        · rw [hk] at cb
          rw [aut_none (by rw [hk]; decide)] at hA
          subst hA
          go_wp2
          go_ret2
          exact ⟨rfl, rfl⟩
        · rw [hk] at cb
          rw [aut_none (by rw [hk]; decide)] at hA
          subst hA
          go_wp2
          go_ret2
          exact ⟨rfl, rfl⟩
        · rw [hk] at cb
          rw [aut_none (by rw [hk]; decide)] at hA
          subst hA
          go_wp2
          go_ret2
          exact ⟨rfl, rfl⟩
        · rw [hk] at cb
          rw [aut_none (by rw [hk]; decide)] at hA
          subst hA
          go_wp2
          go_ret2
          exact ⟨rfl, rfl⟩
        · rw [hk] at cb
          rw [aut_none (by rw [hk]; decide)] at hA
          subst hA
          go_wp2
          go_ret2
          exact ⟨rfl, rfl⟩
        · have hs := step_dig hk
          rw [aut_some hlt (x := 5) (hs.2.2.2.2.1)] at hA
          clear hs
          generalize D p = c at *
          have g1 : decide (48 ≤ c) = true := decide_eq_true (by omega)
          have g2 : decide (c ≤ 57) = true := decide_eq_true (by omega)
          have e45 : (c == 45) = false := by simp; omega
          have e46 : (c == 46) = false := by simp; omega
          have e43 : (c == 43) = false := by simp; omega
          have e48 : (c == 48) = false := by simp; omega
          have e101 : (c == 101) = false := by simp; omega
          have e69 : (c == 69) = false := by simp; omega
          clear hk
          go_wp2
          go_round
          case rel => exact ⟨p + 1, 5, by omega, by go_num, rfl, by omega, hA⟩
          case measure => simp [intOf]; omega
        · have hs := step_oth hk 4
          rw [aut_none (hs)] at hA
          obtain ⟨k1, k2, k3, k4, k5, k6⟩ := hk
          clear hs
          generalize D p = c at *
          have e45 : (c == 45) = false := by simp; omega
          have e46 : (c == 46) = false := by simp; omega
          have e43 : (c == 43) = false := by simp; omega
          have e48 : (c == 48) = false := by simp; omega
          have e101 : (c == 101) = false := by simp; omega
          have e69 : (c == 69) = false := by simp; omega
          rcases k6 with k6 | k6
          · have g1 : decide (48 ≤ c) = false := decide_eq_false (by omega)
            clear k1 k2 k3 k4 k5 k6
            subst hA
            go_wp2
            go_ret2
            exact ⟨rfl, rfl⟩
          · have g1 : decide (48 ≤ c) = true := decide_eq_true (by omega)
            have g2 : decide (c ≤ 57) = false := decide_eq_false (by omega)
            clear k1 k2 k3 k4 k5 k6
            subst hA
            go_wp2
            go_ret2
            exact ⟨rfl, rfl⟩
      · rcases byte_kinds (D p) with hk | hk | hk | hk | hk | hk | hk | hk
        · rw [hk] at cb
          rw [aut_some hlt (x := 5) (by rw [hk]; decide)] at hA
          go_wp2
          go_round
          case rel => exact ⟨p + 1, 5, by omega, by go_num, rfl, by omega, hA⟩
          case measure => simp [intOf]; omega
        · rw [hk] at cb
          rw [aut_none (by rw [hk]; decide)] at hA
          subst hA
          go_wp2
          go_ret2
          exact ⟨rfl, rfl⟩
        · rw [hk] at cb
          rw [aut_none (by rw [hk]; decide)] at hA
          subst hA
          go_wp2
          go_ret2
          exact ⟨rfl, rfl⟩
        · rw [hk] at cb
          rw [aut_none (by rw [hk]; decide)] at hA
          subst hA
          go_wp2
          go_ret2
          exact ⟨rfl, rfl⟩
        · rw [hk] at cb
          rw [aut_some hlt (x := 6) (by rw [hk]; decide)] at hA
          go_wp2
          go_round
          case rel => exact ⟨p + 1, 6, by omega, by go_num, rfl, by omega, hA⟩
          case measure => simp [intOf]; omega
        · rw [hk] at cb
          rw [aut_some hlt (x := 6) (by rw [hk]; decide)] at hA
          go_wp2
          go_round
          case rel => exact ⟨p + 1, 6, by omega, by go_num, rfl, by omega, hA⟩
          case measure => simp [intOf]; omega
        · have hs := step_dig hk
          rw [aut_some hlt (x := 5) (hs.2.2.2.2.2.1)] at hA
          clear hs
          generalize D p = c at *
          have g1 : decide (48 ≤ c) = true := decide_eq_true (by omega)
          have g2 : decide (c ≤ 57) = true := decide_eq_true (by omega)
          have e45 : (c == 45) = false := by simp; omega
          have e46 : (c == 46) = false := by simp; omega
          have e43 : (c == 43) = false := by simp; omega
          have e48 : (c == 48) = false := by simp; omega
          have e101 : (c == 101) = false := by simp; omega
          have e69 : (c == 69) = false := by simp; omega
          clear hk
          go_wp2
          go_round
          case rel => exact ⟨p + 1, 5, by omega, by go_num, rfl, by omega, hA⟩
          case measure => simp [intOf]; omega
        · have hs := step_oth hk 5
          rw [aut_none (hs)] at hA
          obtain ⟨k1, k2, k3, k4, k5, k6⟩ := hk
          clear hs
          generalize D p = c at *
          have e45 : (c == 45) = false := by simp; omega
          have e46 : (c == 46) = false := by simp; omega
          have e43 : (c == 43) = false := by simp; omega
          have e48 : (c == 48) = false := by simp; omega
          have e101 : (c == 101) = false := by simp; omega
          have e69 : (c == 69) = false := by simp; omega
          rcases k6 with k6 | k6
          · have g1 : decide (48 ≤ c) = false := decide_eq_false (by omega)
            clear k1 k2 k3 k4 k5 k6
            subst hA
            go_wp2
            go_ret2
            exact ⟨rfl, rfl⟩
          · have g1 : decide (48 ≤ c) = true := decide_eq_true (by omega)
            have g2 : decide (c ≤ 57) = false := decide_eq_false (by omega)
            clear k1 k2 k3 k4 k5 k6
            subst hA
            go_wp2
            go_ret2
            exact ⟨rfl, rfl⟩
      · rcases byte_kinds (D p) with hk | hk | hk | hk | hk | hk | hk | hk
        · rw [hk] at cb
          rw [aut_some hlt (x := 8) (by rw [hk]; decide)] at hA
          go_wp2
          go_round
          case rel => exact ⟨p + 1, 8, by omega, by go_num, rfl, by omega, hA⟩
          case measure => simp [intOf]; omega
        · rw [hk] at cb
          rw [aut_some hlt (x := 7) (by rw [hk]; decide)] at hA
          go_wp2
          go_round
          case rel => exact ⟨p + 1, 7, by omega, by go_num, rfl, by omega, hA⟩
          case measure => simp [intOf]; omega
        · rw [hk] at cb
          rw [aut_none (by rw [hk]; decide)] at hA
          subst hA
          go_wp2
          go_ret2
          exact ⟨rfl, rfl⟩
        · rw [hk] at cb
          rw [aut_some hlt (x := 7) (by rw [hk]; decide)] at hA
          go_wp2
          go_round
          case rel => exact ⟨p + 1, 7, by omega, by go_num, rfl, by omega, hA⟩
          case measure => simp [intOf]; omega
        · rw [hk] at cb
          rw [aut_none (by rw [hk]; decide)] at hA
          subst hA
          go_wp2
          go_ret2
          exact ⟨rfl, rfl⟩
        · rw [hk] at cb
          rw [aut_none (by rw [hk]; decide)] at hA
          subst hA
          go_wp2
          go_ret2
          exact ⟨rfl, rfl⟩
        · have hs := step_dig hk
          rw [aut_some hlt (x := 8) (hs.2.2.2.2.2.2.1)] at hA
          clear hs
          generalize D p = c at *
          have g1 : decide (48 ≤ c) = true := decide_eq_true (by omega)
          have g2 : decide (c ≤ 57) = true := decide_eq_true (by omega)
          have e45 : (c == 45) = false := by simp; omega
          have e46 : (c == 46) = false := by simp; omega
          have e43 : (c == 43) = false := by simp; omega
          have e48 : (c == 48) = false := by simp; omega
          have e101 : (c == 101) = false := by simp; omega
          have e69 : (c == 69) = false := by simp; omega
          clear hk
          go_wp2
          go_round
          case rel => exact ⟨p + 1, 8, by omega, by go_num, rfl, by omega, hA⟩
          case measure => simp [intOf]; omega
        · have hs := step_oth hk 6
          rw [aut_none (hs)] at hA
          obtain ⟨k1, k2, k3, k4, k5, k6⟩ := hk
          clear hs
          generalize D p = c at *
          have e45 : (c == 45) = false := by simp; omega
          have e46 : (c == 46) = false := by simp; omega
          have e43 : (c == 43) = false := by simp; omega
          have e48 : (c == 48) = false := by simp; omega
          have e101 : (c == 101) = false := by simp; omega
          have e69 : (c == 69) = false := by simp; omega
          rcases k6 with k6 | k6
          · have g1 : decide (48 ≤ c) = false := decide_eq_false (by omega)
            clear k1 k2 k3 k4 k5 k6
            subst hA
            go_wp2
            go_ret2
            exact ⟨rfl, rfl⟩
          · have g1 : decide (48 ≤ c) = true := decide_eq_true (by omega)
            have g2 : decide (c ≤ 57) = false := decide_eq_false (by omega)
            clear k1 k2 k3 k4 k5 k6
            subst hA
            go_wp2
            go_ret2
            exact ⟨rfl, rfl⟩
      · rcases byte_kinds (D p) with hk | hk | hk | hk | hk | hk | hk | hk
        · rw [hk] at cb
          rw [aut_some hlt (x := 8) (by rw [hk]; decide)] at hA
          go_wp2
          go_round
          case rel => exact ⟨p + 1, 8, by omega, by go_num, rfl, by omega, hA⟩
          case measure => simp [intOf]; omega
        · rw [hk] at cb
          rw [aut_none (by rw [hk]; decide)] at hA
          subst hA
          go_wp2
          go_ret2
          exact ⟨rfl, rfl⟩
        · rw [hk] at cb
          rw [aut_none (by rw [hk]; decide)] at hA
          subst hA
          go_wp2
          go_ret2
          exact ⟨rfl, rfl⟩
        · rw [hk] at cb
          rw [aut_none (by rw [hk]; decide)] at hA
          subst hA
          go_wp2
          go_ret2
          exact ⟨rfl, rfl⟩
        · rw [hk] at cb
          rw [aut_none (by rw [hk]; decide)] at hA
          subst hA
          go_wp2
          go_ret2
          exact ⟨rfl, rfl⟩
        · rw [hk] at cb
          rw [aut_none (by rw [hk]; decide)] at hA
          subst hA
          go_wp2
          go_ret2
          exact ⟨rfl, rfl⟩
        · have hs := step_dig hk
          rw [aut_some hlt (x := 8) (hs.2.2.2.2.2.2.2.1)] at hA
          clear hs
          generalize D p = c at *
          have g1 : decide (48 ≤ c) = true := decide_eq_true (by omega)
          have g2 : decide (c ≤ 57) = true := decide_eq_true (by omega)
          have e45 : (c == 45) = false := by simp; omega
          have e46 : (c == 46) = false := by simp; omega
          have e43 : (c == 43) = false := by simp; omega
          have e48 : (c == 48) = false := by simp; omega
          have e101 : (c == 101) = false := by simp; omega
          have e69 : (c == 69) = false := by simp; omega
          clear hk
          go_wp2
          go_round
          case rel => exact ⟨p + 1, 8, by omega, by go_num, rfl, by omega, hA⟩
          case measure => simp [intOf]; omega
        · have hs := step_oth hk 7
          rw [aut_none (hs)] at hA
          obtain ⟨k1, k2, k3, k4, k5, k6⟩ := hk
          clear hs
          generalize D p = c at *
          have e45 : (c == 45) = false := by simp; omega
          have e46 : (c == 46) = false := by simp; omega
          have e43 : (c == 43) = false := by simp; omega
          have e48 : (c == 48) = false := by simp; omega
          have e101 : (c == 101) = false := by simp; omega
          have e69 : (c == 69) = false := by simp; omega
          rcases k6 with k6 | k6
          · have g1 : decide (48 ≤ c) = false := decide_eq_false (by omega)
            clear k1 k2 k3 k4 k5 k6
            subst hA
            go_wp2
            go_ret2
            exact ⟨rfl, rfl⟩
          · have g1 : decide (48 ≤ c) = true := decide_eq_true (by omega)
            have g2 : decide (c ≤ 57) = false := decide_eq_false (by omega)
            clear k1 k2 k3 k4 k5 k6
            subst hA
            go_wp2
            go_ret2
            exact ⟨rfl, rfl⟩
      · rcases byte_kinds (D p) with hk | hk | hk | hk | hk | hk | hk | hk
        · rw [hk] at cb
          rw [aut_some hlt (x := 8) (by rw [hk]; decide)] at hA
          go_wp2
          go_round
          case rel => exact ⟨p + 1, 8, by omega, by go_num, rfl, by omega, hA⟩
          case measure => simp [intOf]; omega
        · rw [hk] at cb
          rw [aut_none (by rw [hk]; decide)] at hA
          subst hA
          go_wp2
          go_ret2
          exact ⟨rfl, rfl⟩
        · rw [hk] at cb
          rw [aut_none (by rw [hk]; decide)] at hA
          subst hA
          go_wp2
          go_ret2
          exact ⟨rfl, rfl⟩
        · rw [hk] at cb
          rw [aut_none (by rw [hk]; decide)] at hA
          subst hA
          go_wp2
          go_ret2
          exact ⟨rfl, rfl⟩
        · rw [hk] at cb
          rw [aut_none (by rw [hk]; decide)] at hA
          subst hA
          go_wp2
          go_ret2
          exact ⟨rfl, rfl⟩
        · rw [hk] at cb
          rw [aut_none (by rw [hk]; decide)] at hA
          subst hA
          go_wp2
          go_ret2
          exact ⟨rfl, rfl⟩
        · have hs := step_dig hk
          rw [aut_some hlt (x := 8) (hs.2.2.2.2.2.2.2.2)] at hA
          clear hs
          generalize D p = c at *
          have g1 : decide (48 ≤ c) = true := decide_eq_true (by omega)
          have g2 : decide (c ≤ 57) = true := decide_eq_true (by omega)
          have e45 : (c == 45) = false := by simp; omega
          have e46 : (c == 46) = false := by simp; omega
          have e43 : (c == 43) = false := by simp; omega
          have e48 : (c == 48) = false := by simp; omega
          have e101 : (c == 101) = false := by simp; omega
          have e69 : (c == 69) = false := by simp; omega
          clear hk
          go_wp2
          go_round
          case rel => exact ⟨p + 1, 8, by omega, by go_num, rfl, by omega, hA⟩
          case measure => simp [intOf]; omega
        · have hs := step_oth hk 8
          rw [aut_none (hs)] at hA
          obtain ⟨k1, k2, k3, k4, k5, k6⟩ := hk
          clear hs
          generalize D p = c at *
          have e45 : (c == 45) = false := by simp; omega
          have e46 : (c == 46) = false := by simp; omega
          have e43 : (c == 43) = false := by simp; omega
          have e48 : (c == 48) = false := by simp; omega
          have e101 : (c == 101) = false := by simp; omega
          have e69 : (c == 69) = false := by simp; omega
          rcases k6 with k6 | k6
          · have g1 : decide (48 ≤ c) = false := decide_eq_false (by omega)
            clear k1 k2 k3 k4 k5 k6
            subst hA
            go_wp2
            go_ret2
            exact ⟨rfl, rfl⟩
          · have g1 : decide (48 ≤ c) = true := decide_eq_true (by omega)
            have g2 : decide (c ≤ 57) = false := decide_eq_false (by omega)
            clear k1 k2 k3 k4 k5 k6
            subst hA
            go_wp2
            go_ret2
            exact ⟨rfl, rfl⟩
    · rw [aut_end (by omega)] at hA
      subst hA
      clear HC
      rcases ht9 with rfl | rfl | rfl | rfl | rfl | rfl | rfl | rfl | rfl
      all_goals
        go_wp2
        go_ret2
        exact ⟨rfl, rfl⟩

end Go.Proofs.Qxb6616277aFmt
