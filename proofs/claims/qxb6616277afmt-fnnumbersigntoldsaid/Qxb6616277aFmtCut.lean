/-
  FnNumberCut, walked on its main road.
-/
import Derived.Test.Qxb6616277aFmtRun
import Derived.Test.Qxb6616277aFmtAut
namespace Go.Proofs.Qxb6616277aFmt
open Go.RowKit Go.Deep Go.Extern.Stop Go.Stop Go.Extern

/-- zzNumber answers as the plain function does. -/
theorem zzNumber_plain (b off n cp : Nat) (D : Nat → Int) (w : World) (h0 : 0 < n) (hn : n ≤ 1048577) (hc : ∀ j, j < n → w.cell? ⟨b, off + j, none⟩ = some (.int .u8 (D j))) :
    Calls Tryf.prog 15 #[.slice (some ⟨b, off, none⟩) n cp, .int .i64 0] w fun e w' => e = .returned (.tuple #[.int .i64 ((number D n).2 : Nat), .bool (number D n).1]) ∧ w' = w := by
  refine (zzNumber_any b off n cp D w hn hc).mono ?_
  rintro e w' ⟨rfl, hw⟩
  have h := out_number (D := D) h0
  refine ⟨?_, hw⟩
  rw [← h]
  rfl

theorem Cl.cells {w W : World} {n : Nat} {D : Nat → Int} (h : Cl w n D W) : ∀ j, j < n → W.cell? ⟨w.heap.size, 0 + j, none⟩ = some (.int .u8 (D j)) := fun j hj => by
  rw [Nat.zero_add]
  exact h.row.cell hj

set_option maxHeartbeats 1600000 in
set_option maxRecDepth 100000 in
theorem cut_walk (F : Interp) (hS : Short F) (b off n cp k : Nat) (D : Nat → Int) (x : Addr) (w : World) (hF : F.answers w.tape) (hg : w.cell? ⟨0, 0, none⟩ = some (eofV x)) (hn : n ≤ 1048576) (h0 : 0 < n) (hc : ∀ j, j < n → w.cell? ⟨b, off + j, none⟩ = some (.int .u8 (D j))) (hb : ∀ j, j < n → 0 ≤ D j ∧ D j ≤ 255)
    (hfirst : D 0 = 45 ∨ (48 ≤ D 0 ∧ D 0 ≤ 57)) (k0 : 1 ≤ k) (k1 : k ≤ n) :
    Calls Tryf.prog 4 #[.slice (some ⟨b, off, none⟩) n cp, .int .i64 k] w fun e w' => e = .returned (.bool true) ∧ Below w.heap.size w w' := by
  have H0 : w.cell? ⟨b, off, none⟩ = some (.int .u8 (D 0)) := hc 0 h0
  have Hc := hid hc
  have Hb := hid hb
  have Hlt := hid (World.block_lt_of_cell? w _ hg)
  have h33 : 33 ≤ D 0 := by omega
  have g1 : decide ((k : Int) < 1) = false := decide_eq_false (by omega)
  have g2 : decide ((n : Int) < k) = false := decide_eq_false (by omega)
  have g3 : decide (1048576 < n) = false := decide_eq_false (by omega)
  have g4 : decide ((1048576 : Int) < n) = false := decide_eq_false (by omega)
  have g5 : decide (n ≤ 1048576) = true := decide_eq_true hn
  have g6 : ((n : Int) == 0) = false := by simp; omega
  obtain ⟨A, pa, ha⟩ : ∃ A pa, number D n = (A, pa) := ⟨_, _, rfl⟩
  obtain ⟨B, pb, hk⟩ : ∃ B pb, number D k = (B, pb) := ⟨_, _, rfl⟩
  have hcut : A = true → pa ≤ k → B = true ∧ pb = pa := fun hA hle => by
    have := number_cut (D := D) (n := n) (k := k) k0 k1 (by rw [ha]; exact hle)
    rw [ha, hk] at this
    injection this with h1 h2
    exact ⟨h1.trans hA, h2⟩
  clear hc hb
  go_enter Tryf.func4, Tryf.ntmps4
  go_wp2_with fail
  refine (zzBytesCut_any _ _ _ _ w).mono ?_
  rintro e w' ⟨rfl, hw⟩
  obtain rfl := hw
  have q : ((D 0 == 45) = true) ∨ ((D 0 == 45) = false ∧ decide (48 ≤ D 0) = true ∧ decide (D 0 ≤ 57) = true) := by
    rcases hfirst with h | h
    · exact .inl (by simp [h])
    · exact .inr ⟨by simp; omega, by simp; omega, by simp; omega⟩
  rcases q with q | ⟨q, qa, qb⟩
  · go_wp2_with fail
    refine (zzClone_any b off n cp D w' (by omega) Hc.out).mono ?_
    rintro e w1 ⟨rfl, hC1⟩
    have C1 := hid hC1
    clear hC1
    go_wp2_with fail
    refine (zzClone_any w'.heap.size 0 n n D w1 (by omega) C1.out.cells).mono ?_
    rintro e w2 ⟨rfl, hC2⟩
    have C2 := hid hC2
    clear hC2
    have hg1 : w1.cell? ⟨0, 0, none⟩ = some (eofV x) := (C1.out.bel.cell Hlt.out).trans hg
    go_wp2_with fail
    refine (run_any F hS w1 w1.heap.size n D x w2 (by rw [C1.out.bel.tape]; exact hF) hg1 C2.out.bel (Nat.le_refl _) (by omega) C2.out.row h0 Hb.out h33).mono ?_
    rintro e w3 ⟨rfl, hB3⟩
    have B3 := hid hB3
    have z1 := C1.out.bel.size
    have l1 := C1.out.row.lt
    have hg3 : w3.cell? ⟨0, 0, none⟩ = some (eofV x) := (hB3.cell (Nat.lt_of_lt_of_le Hlt.out z1)).trans hg1
    have R3 := hid (C1.out.row.of_block (hB3.block _ l1))
    clear hB3 hg1 C2
    rw [ha]
    go_wp2_with fail
    refine (zzClone_any w'.heap.size 0 k n D w3 (by omega) (fun j hj => by rw [Nat.zero_add]; exact R3.out.cell (by omega))).mono ?_
    rintro e w4 ⟨rfl, hC4⟩
    have C4 := hid hC4
    clear hC4
    go_wp2_with fail
    refine (run_any F hS w3 w3.heap.size k D x w4 (by rw [B3.out.tape, C1.out.bel.tape]; exact hF) hg3 C4.out.bel (Nat.le_refl _) (by omega) C4.out.row k0 (fun i hi => Hb.out i (by omega)) h33).mono ?_
    rintro e w5 ⟨rfl, hB5⟩
    have B5 := hid hB5
    have R5 := hid (R3.out.of_block (hB5.block _ R3.out.lt))
    clear hB5 C4
    rw [hk]
    go_wp2_with fail
    refine (zzNumber_plain w'.heap.size 0 n n D w5 h0 (by omega) (fun j hj => by rw [Nat.zero_add]; exact R5.out.cell (by omega))).mono ?_
    rintro e w6 ⟨rfl, hw6⟩
    obtain rfl := hw6
    rw [ha]
    go_wp2_with fail
    refine (zzNumber_plain w'.heap.size 0 k n D w6 k0 (by omega) (fun j hj => by rw [Nat.zero_add]; exact R5.out.cell (by omega))).mono ?_
    rintro e w7 ⟨rfl, hw7⟩
    obtain rfl := hw7
    rw [hk]
    have HB := hid (show Below w'.heap.size w' w7 from (C1.out.bel.trans (B3.out.mono z1)).trans (B5.out.mono (Nat.le_trans z1 B3.out.size)))
    clear C1 B3 B5 R3 R5 hg3 z1 l1 ha hk
    cases A with
    | false =>
      cases B with
      | false =>
        go_wp2
        go_ret
        exact ⟨rfl, HB.out⟩
      | true =>
        go_wp2
        go_ret
        exact ⟨rfl, HB.out⟩
    | true =>
      by_cases hle : pa ≤ k
      · obtain ⟨rfl, rfl⟩ := hcut rfl hle
        have gl : decide ((pb : Int) ≤ k) = true := decide_eq_true (by omega)
        go_wp2
        go_ret
        exact ⟨rfl, HB.out⟩
      · have gl : decide ((pa : Int) ≤ k) = false := decide_eq_false (by omega)
        cases B with
        | false =>
          go_wp2
          go_ret
          exact ⟨rfl, HB.out⟩
        | true =>
          go_wp2
          go_ret
          exact ⟨rfl, HB.out⟩
  · go_wp2_with fail
    refine (zzClone_any b off n cp D w' (by omega) Hc.out).mono ?_
    rintro e w1 ⟨rfl, hC1⟩
    have C1 := hid hC1
    clear hC1
    go_wp2_with fail
    refine (zzClone_any w'.heap.size 0 n n D w1 (by omega) C1.out.cells).mono ?_
    rintro e w2 ⟨rfl, hC2⟩
    have C2 := hid hC2
    clear hC2
    have hg1 : w1.cell? ⟨0, 0, none⟩ = some (eofV x) := (C1.out.bel.cell Hlt.out).trans hg
    go_wp2_with fail
    refine (run_any F hS w1 w1.heap.size n D x w2 (by rw [C1.out.bel.tape]; exact hF) hg1 C2.out.bel (Nat.le_refl _) (by omega) C2.out.row h0 Hb.out h33).mono ?_
    rintro e w3 ⟨rfl, hB3⟩
    have B3 := hid hB3
    have z1 := C1.out.bel.size
    have l1 := C1.out.row.lt
    have hg3 : w3.cell? ⟨0, 0, none⟩ = some (eofV x) := (hB3.cell (Nat.lt_of_lt_of_le Hlt.out z1)).trans hg1
    have R3 := hid (C1.out.row.of_block (hB3.block _ l1))
    clear hB3 hg1 C2
    rw [ha]
    go_wp2_with fail
    refine (zzClone_any w'.heap.size 0 k n D w3 (by omega) (fun j hj => by rw [Nat.zero_add]; exact R3.out.cell (by omega))).mono ?_
    rintro e w4 ⟨rfl, hC4⟩
    have C4 := hid hC4
    clear hC4
    go_wp2_with fail
    refine (run_any F hS w3 w3.heap.size k D x w4 (by rw [B3.out.tape, C1.out.bel.tape]; exact hF) hg3 C4.out.bel (Nat.le_refl _) (by omega) C4.out.row k0 (fun i hi => Hb.out i (by omega)) h33).mono ?_
    rintro e w5 ⟨rfl, hB5⟩
    have B5 := hid hB5
    have R5 := hid (R3.out.of_block (hB5.block _ R3.out.lt))
    clear hB5 C4
    rw [hk]
    go_wp2_with fail
    refine (zzNumber_plain w'.heap.size 0 n n D w5 h0 (by omega) (fun j hj => by rw [Nat.zero_add]; exact R5.out.cell (by omega))).mono ?_
    rintro e w6 ⟨rfl, hw6⟩
    obtain rfl := hw6
    rw [ha]
    go_wp2_with fail
    refine (zzNumber_plain w'.heap.size 0 k n D w6 k0 (by omega) (fun j hj => by rw [Nat.zero_add]; exact R5.out.cell (by omega))).mono ?_
    rintro e w7 ⟨rfl, hw7⟩
    obtain rfl := hw7
    rw [hk]
    have HB := hid (show Below w'.heap.size w' w7 from (C1.out.bel.trans (B3.out.mono z1)).trans (B5.out.mono (Nat.le_trans z1 B3.out.size)))
    clear C1 B3 B5 R3 R5 hg3 z1 l1 ha hk
    cases A with
    | false =>
      cases B with
      | false =>
        go_wp2
        go_ret
        exact ⟨rfl, HB.out⟩
      | true =>
        go_wp2
        go_ret
        exact ⟨rfl, HB.out⟩
    | true =>
      by_cases hle : pa ≤ k
      · obtain ⟨rfl, rfl⟩ := hcut rfl hle
        have gl : decide ((pb : Int) ≤ k) = true := decide_eq_true (by omega)
        go_wp2
        go_ret
        exact ⟨rfl, HB.out⟩
      · have gl : decide ((pa : Int) ≤ k) = false := decide_eq_false (by omega)
        cases B with
        | false =>
          go_wp2
          go_ret
          exact ⟨rfl, HB.out⟩
        | true =>
          go_wp2
          go_ret
          exact ⟨rfl, HB.out⟩

end Go.Proofs.Qxb6616277aFmt
