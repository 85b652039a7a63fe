/-
  FnGuardShutDownShutsGuardedTypesOnly, walked.
-/
import Derived.Test.Qxb6616254aNewB
namespace Go.Proofs.Qxb6616254a
open Go.RowKit Go.Maps

/-- The three boxed arrays of a law. -/
def Bx (B : Nat) (b0 b1 b2 b3 : Bool) (u0 u1 u2 u3 l0 l1 l2 l3 : Int) (W : World) : Prop :=
  ∀ k, k < 4 → W.cell? ⟨B, k, none⟩ = some (.bool (sel b0 b1 b2 b3 k)) ∧ W.cell? ⟨B + 1, k, none⟩ = some (.int .i64 (sel u0 u1 u2 u3 k)) ∧ W.cell? ⟨B + 2, k, none⟩ = some (.int .i64 (sel l0 l1 l2 l3 k))

theorem hid {p : Prop} (h : p) : Hid p := h

theorem bx3 (w : World) (b0 b1 b2 b3 : Bool) (u0 u1 u2 u3 l0 l1 l2 l3 : Int) :
    Bx w.heap.size b0 b1 b2 b3 u0 u1 u2 u3 l0 l1 l2 l3 (((w.alloc (.cells #[.bool b0, .bool b1, .bool b2, .bool b3] 23)).alloc (.cells #[.int .i64 u0, .int .i64 u1, .int .i64 u2, .int .i64 u3] 24)).alloc (.cells #[.int .i64 l0, .int .i64 l1, .int .i64 l2, .int .i64 l3] 24)) := by
  intro k hk
  obtain rfl | rfl | rfl | rfl : k = 0 ∨ k = 1 ∨ k = 2 ∨ k = 3 := by omega
  all_goals
    refine ⟨?_, ?_, ?_⟩ <;> simp [go_sem, sel]

theorem Bx.below {B C : Nat} {b0 b1 b2 b3 : Bool} {u0 u1 u2 u3 l0 l1 l2 l3 : Int} {W W' : World} (h : Bx B b0 b1 b2 b3 u0 u1 u2 u3 l0 l1 l2 l3 W) (hb : Below C W W') (hC : B + 3 ≤ C) : Bx B b0 b1 b2 b3 u0 u1 u2 u3 l0 l1 l2 l3 W' := by
  intro k hk
  obtain ⟨h1, h2, h3⟩ := h k hk
  exact ⟨by rw [hb.cell (p := ⟨B, k, none⟩) (by simp; omega)]; exact h1, by rw [hb.cell (p := ⟨B + 1, k, none⟩) (by simp; omega)]; exact h2, by rw [hb.cell (p := ⟨B + 2, k, none⟩) (by simp; omega)]; exact h3⟩

theorem Bx.grown {B g : Nat} {b0 b1 b2 b3 : Bool} {u0 u1 u2 u3 l0 l1 l2 l3 : Int} {W W' : World} (h : Bx B b0 b1 b2 b3 u0 u1 u2 u3 l0 l1 l2 l3 W) (hb : W.grownBy W' (some g)) (hC : B + 3 ≤ g) : Bx B b0 b1 b2 b3 u0 u1 u2 u3 l0 l1 l2 l3 W' := by
  intro k hk
  obtain ⟨h1, h2, h3⟩ := h k hk
  exact ⟨grown_cell hb (by omega) h1, grown_cell hb (by omega) h2, grown_cell hb (by omega) h3⟩

theorem below3 (w : World) (A B C : Obj) : Below w.heap.size w (((w.alloc A).alloc B).alloc C) := (((Below.refl _ _).alloc (Nat.le_refl _) _).alloc (by simp) _).alloc (by simp; omega) _

set_option maxHeartbeats 1000000 in
theorem lawA_any (sp iv ac nt hs : Int) (b0 b1 b2 b3 : Bool) (u0 u1 u2 u3 l0 l1 l2 l3 : Int) (w : World) :
    Calls Try.prog 3 #[.int .u64 sp, .int .i64 iv, .int .i64 ac, .int .i64 nt, .int .i64 hs, .agg #[.bool b0, .bool b1, .bool b2, .bool b3], .agg #[.int .i64 u0, .int .i64 u1, .int .i64 u2, .int .i64 u3], .agg #[.int .i64 l0, .int .i64 l1, .int .i64 l2, .int .i64 l3]] w fun e w' => e = .returned (.bool true) ∧ Below w.heap.size w w' := by
  have hbx := bx3 w b0 b1 b2 b3 u0 u1 u2 u3 l0 l1 l2 l3
  have HBX := hid hbx
  clear hbx
  go_enter Try.func3, Try.ntmps3
  go_wp2_with fail
  refine (build_any b0 b1 b2 b3 u0 u1 u2 u3 l0 l1 l2 l3 _).mono ?_
  rintro e w1 ⟨bm, D, rfl, hbm, hmap, hdat, hb1⟩
  go_wp2_with fail
  refine (zzNewGuard_any sp iv ac nt hs bm 4 D (sel b0 b1 b2 b3) (sel u0 u1 u2 u3) (sel l0 l1 l2 l3) w1 hmap hdat).mono ?_
  rintro e w2 ⟨g, rfl, hg1, hg2, hG, hb2⟩
  have hbx1 := HBX.out.below hb1 (by simp)
  have hs1 := hb1.size
  have hbx2 := hbx1.below hb2 (by simp at hs1; omega)
  have hbel2 : Below w.heap.size w w2 := (below3 _ _ _ _).trans ((hb1.mono (by simp; omega)).trans (hb2.mono (by simp at hs1; omega)))
  have hg3 : w.heap.size + 3 ≤ g := by simp at hs1; omega
  clear HBX hbm hmap hdat hb1 hbx1 hs1 hb2 hg1
  have HG := hid (fun wx (hx : Below w2.heap.size w2 wx) => hG.below hx hg2)
  have HX := hid (fun wx (hx : Below w2.heap.size w2 wx) => hbx2.below hx (by omega))
  go_wp2_with fail
  go_loopw [18] (fun i wr => ∃ k : Nat, k ≤ 4 ∧ i = .int .i64 k ∧ Below w2.heap.size w2 wr) (fun i _ => 4 - (intOf i).toNat)
  case atStart => exact ⟨0, by omega, rfl, Below.refl _ _⟩
  case round =>
    obtain ⟨k, hk, rfl, hbr⟩ := hrel
    by_cases hlt : k < 4
    · have hx := HX.out _ hbr
      obtain ⟨p0, q0, _⟩ := hx 0 (by omega)
      obtain ⟨p1, q1, _⟩ := hx 1 (by omega)
      obtain ⟨p2, q2, _⟩ := hx 2 (by omega)
      obtain ⟨p3, q3, _⟩ := hx 3 (by omega)
      simp only [sel] at p0 p1 p2 p3 q0 q1 q2 q3
      have hgd := guarded_any b0 b1 b2 b3 u0 u1 u2 u3 wr k hlt
      by_cases hg : gB (sel b0 b1 b2 b3 k) (sel u0 u1 u2 u3 k) = true
      · rw [hg] at hgd
        have HGD := hid hgd
        clear hgd hx hG hbx2
        go_wp2_with fail
        refine HGD.out.mono ?_
        rintro e w3 ⟨rfl, hb3⟩
        have hb3' := hbr.trans (hb3.mono hbr.size)
        have hst := (HG.out _ hb3').st k hlt
        simp only [stF, hg, if_true] at hst
        go_wp2_with fail
        refine (status_any g k 2 w3 hlt hst).mono ?_
        rintro e w4 ⟨rfl, rfl⟩
        go_wp2_with fail
        go_roundw
        case rel => exact ⟨k + 1, by omega, by go_num, hb3'⟩
        case measure => simp [intOf]; omega
      · have hg' : gB (sel b0 b1 b2 b3 k) (sel u0 u1 u2 u3 k) = false := by simpa using hg
        rw [hg'] at hgd
        have HGD := hid hgd
        clear hgd hx hG hbx2
        go_wp2_with fail
        refine HGD.out.mono ?_
        rintro e w3 ⟨rfl, hb3⟩
        have hb3' := hbr.trans (hb3.mono hbr.size)
        have hst := (HG.out _ hb3').st k hlt
        simp only [stF, hg'] at hst
        go_wp2_with fail
        refine (status_any g k 1 w3 hlt hst).mono ?_
        rintro e w4 ⟨rfl, rfl⟩
        go_wp2_with fail
        go_roundw
        case rel => exact ⟨k + 1, by omega, by go_num, hb3'⟩
        case measure => simp [intOf]; omega
    · obtain rfl : k = 4 := by omega
      have hGr := HG.out _ hbr
      have hXr := HX.out _ hbr
      have hbel3 := hbel2.trans (hbr.mono hbel2.size)
      have hgr : g < wr.heap.size := Nat.lt_of_lt_of_le hg2 hbr.size
      clear hG hbx2 hbel2 hg2 hbr HG HX
      go_wp2_with fail
      refine (zzShutDown_any g _ _ _ _ _ _ wr hGr).mono ?_
      rintro e w4 ⟨rfl, hG4, hgrow⟩
      have hX4 := hXr.grown hgrow hg3
      have hg4 : g < w4.heap.size := Nat.lt_of_lt_of_le hgr hgrow.size
      have hbel4 := below_grown hbel3 hgrow (by omega) hbel3.size
      have HG4 := hid (fun wx (hx : Below w4.heap.size w4 wx) => hG4.below hx hg4)
      have HX4 := hid (fun wx (hx : Below w4.heap.size w4 wx) => hX4.below hx (by omega))
      clear hGr hXr hbel3 hgr hgrow hG4 hX4
      go_wp2_with fail
      go_loopw [20] (fun i wr => ∃ k : Nat, k ≤ 4 ∧ i = .int .i64 k ∧ Below w4.heap.size w4 wr) (fun i _ => 4 - (intOf i).toNat)
      case atStart => exact ⟨0, by omega, rfl, Below.refl _ _⟩
      case round =>
        obtain ⟨k, hk, rfl, hbr2⟩ := hrel
        by_cases hlt : k < 4
        · have hx2 := HX4.out _ hbr2
          obtain ⟨p0, q0, _⟩ := hx2 0 (by omega)
          obtain ⟨p1, q1, _⟩ := hx2 1 (by omega)
          obtain ⟨p2, q2, _⟩ := hx2 2 (by omega)
          obtain ⟨p3, q3, _⟩ := hx2 3 (by omega)
          simp only [sel] at p0 p1 p2 p3 q0 q1 q2 q3
          have HGD := hid (guarded_any b0 b1 b2 b3 u0 u1 u2 u3 wr k hlt)
          by_cases hl : sel b0 b1 b2 b3 k = true
          · by_cases hgb : gB (sel b0 b1 b2 b3 k) (sel u0 u1 u2 u3 k) = true
            · rw [hgb] at HGD
              clear hx2
              go_wp2_with fail
              refine HGD.out.mono ?_
              rintro e w5 ⟨rfl, hb5⟩
              have hb5' := hbr2.trans (hb5.mono hbr2.size)
              obtain ⟨a0, a1, a2⟩ := HX4.out _ hb5' k hlt
              rw [hl] at a0
              have hG5 := HG4.out _ hb5'
              have hst : w5.cell? ⟨g, 7 + k * 7 + 2, none⟩ = some (.int .i64 5) := by rw [hG5.st k hlt]; simp [shutOf, stF, hgb]
              have hup : w5.cell? ⟨g, 7 + k * 7, none⟩ = some (.int .i64 (sel u0 u1 u2 u3 k)) := by rw [hG5.up k hlt]; simp [upF, hl]
              have hlo : w5.cell? ⟨g, 7 + k * 7 + 1, none⟩ = some (.int .i64 (sel l0 l1 l2 l3 k)) := by rw [hG5.lo k hlt]; simp [upF, hl]
              have hg5 : g < w5.heap.size := Nat.lt_of_lt_of_le hg4 hb5'.size
              clear hG5 p0 p1 p2 p3 q0 q1 q2 q3 HGD hgb hl
              go_wp2_with fail
              refine (status_any g k 5 w5 hlt hst).mono ?_
              rintro e w6 ⟨rfl, rfl⟩
              clear hst
              go_wp2_with fail
              refine (thresholds_any g k (sel u0 u1 u2 u3 k) (sel l0 l1 l2 l3 k) _ hlt hg5 hup hlo).mono ?_
              rintro e w7 ⟨rfl, hb7⟩
              have hb7' := hb5'.trans (hb7.mono hb5'.size)
              clear a0 a1 a2 hup hlo
              go_wp2_with fail
              refine (storms_any g k 0 _ hlt ((HG4.out _ (hb7'.alloc hb7'.size _)).sto k hlt)).mono ?_
              rintro e w8 ⟨rfl, rfl⟩
              go_wp2_with fail
              refine (suppressed_any g k 0 _ hlt ((HG4.out _ (hb7'.alloc hb7'.size _)).tot k hlt)).mono ?_
              rintro e w8 ⟨rfl, rfl⟩
              go_wp2_with fail
              refine (level_any g k 0 _ hlt ((HG4.out _ (hb7'.alloc hb7'.size _)).lv k hlt)).mono ?_
              rintro e w8 ⟨rfl, rfl⟩
              go_wp2_with fail
              go_roundw
              case rel => exact ⟨k + 1, by omega, by go_num, hb7'.alloc hb7'.size _⟩
              case measure => simp [intOf]; omega
            · have hgb : gB (sel b0 b1 b2 b3 k) (sel u0 u1 u2 u3 k) = false := by simpa using hgb
              rw [hgb] at HGD
              clear hx2
              go_wp2_with fail
              refine HGD.out.mono ?_
              rintro e w5 ⟨rfl, hb5⟩
              have hb5' := hbr2.trans (hb5.mono hbr2.size)
              obtain ⟨a0, a1, a2⟩ := HX4.out _ hb5' k hlt
              rw [hl] at a0
              have hG5 := HG4.out _ hb5'
              have hst : w5.cell? ⟨g, 7 + k * 7 + 2, none⟩ = some (.int .i64 1) := by rw [hG5.st k hlt]; simp [shutOf, stF, hgb]
              have hup : w5.cell? ⟨g, 7 + k * 7, none⟩ = some (.int .i64 (sel u0 u1 u2 u3 k)) := by rw [hG5.up k hlt]; simp [upF, hl]
              have hlo : w5.cell? ⟨g, 7 + k * 7 + 1, none⟩ = some (.int .i64 (sel l0 l1 l2 l3 k)) := by rw [hG5.lo k hlt]; simp [upF, hl]
              have hg5 : g < w5.heap.size := Nat.lt_of_lt_of_le hg4 hb5'.size
              clear hG5 p0 p1 p2 p3 q0 q1 q2 q3 HGD hgb hl
              go_wp2_with fail
              refine (status_any g k 1 w5 hlt hst).mono ?_
              rintro e w6 ⟨rfl, rfl⟩
              clear hst
              go_wp2_with fail
              refine (thresholds_any g k (sel u0 u1 u2 u3 k) (sel l0 l1 l2 l3 k) _ hlt hg5 hup hlo).mono ?_
              rintro e w7 ⟨rfl, hb7⟩
              have hb7' := hb5'.trans (hb7.mono hb5'.size)
              clear a0 a1 a2 hup hlo
              go_wp2_with fail
              refine (storms_any g k 0 _ hlt ((HG4.out _ (hb7'.alloc hb7'.size _)).sto k hlt)).mono ?_
              rintro e w8 ⟨rfl, rfl⟩
              go_wp2_with fail
              refine (suppressed_any g k 0 _ hlt ((HG4.out _ (hb7'.alloc hb7'.size _)).tot k hlt)).mono ?_
              rintro e w8 ⟨rfl, rfl⟩
              go_wp2_with fail
              refine (level_any g k 0 _ hlt ((HG4.out _ (hb7'.alloc hb7'.size _)).lv k hlt)).mono ?_
              rintro e w8 ⟨rfl, rfl⟩
              go_wp2_with fail
              go_roundw
              case rel => exact ⟨k + 1, by omega, by go_num, hb7'.alloc hb7'.size _⟩
              case measure => simp [intOf]; omega
          · have hl : sel b0 b1 b2 b3 k = false := by simpa using hl
            have hgb : gB (sel b0 b1 b2 b3 k) (sel u0 u1 u2 u3 k) = false := by simp [gB, hl]
            rw [hgb] at HGD
            clear hx2
            go_wp2_with fail
            refine HGD.out.mono ?_
            rintro e w5 ⟨rfl, hb5⟩
            have hb5' := hbr2.trans (hb5.mono hbr2.size)
            obtain ⟨a0, a1, a2⟩ := HX4.out _ hb5' k hlt
            rw [hl] at a0
            have hG5 := HG4.out _ hb5'
            have hst : w5.cell? ⟨g, 7 + k * 7 + 2, none⟩ = some (.int .i64 1) := by rw [hG5.st k hlt]; simp [shutOf, stF, hgb]
            have hup : w5.cell? ⟨g, 7 + k * 7, none⟩ = some (.int .i64 10000) := by rw [hG5.up k hlt]; simp [upF, hl]
            have hlo : w5.cell? ⟨g, 7 + k * 7 + 1, none⟩ = some (.int .i64 10000) := by rw [hG5.lo k hlt]; simp [upF, hl]
            have hg5 : g < w5.heap.size := Nat.lt_of_lt_of_le hg4 hb5'.size
            clear hG5 p0 p1 p2 p3 q0 q1 q2 q3 HGD hgb hl
            go_wp2_with fail
            refine (status_any g k 1 w5 hlt hst).mono ?_
            rintro e w6 ⟨rfl, rfl⟩
            clear hst
            go_wp2_with fail
            refine (thresholds_any g k 10000 10000 _ hlt hg5 hup hlo).mono ?_
            rintro e w7 ⟨rfl, hb7⟩
            have hb7' := hb5'.trans (hb7.mono hb5'.size)
            clear a0 a1 a2 hup hlo
            go_wp2_with fail
            refine (storms_any g k 0 _ hlt ((HG4.out _ (hb7'.alloc hb7'.size _)).sto k hlt)).mono ?_
            rintro e w8 ⟨rfl, rfl⟩
            go_wp2_with fail
            refine (suppressed_any g k 0 _ hlt ((HG4.out _ (hb7'.alloc hb7'.size _)).tot k hlt)).mono ?_
            rintro e w8 ⟨rfl, rfl⟩
            go_wp2_with fail
            refine (level_any g k 0 _ hlt ((HG4.out _ (hb7'.alloc hb7'.size _)).lv k hlt)).mono ?_
            rintro e w8 ⟨rfl, rfl⟩
            go_wp2_with fail
            go_roundw
            case rel => exact ⟨k + 1, by omega, by go_num, hb7'.alloc hb7'.size _⟩
            case measure => simp [intOf]; omega
        · go_wp2_with fail
          refine (shut_any g true _ (HG4.out _ hbr2).sh).mono ?_
          rintro e w5 ⟨rfl, rfl⟩
          go_wp2
          go_ret
          exact ⟨rfl, hbel4.trans (hbr2.mono hbel4.size)⟩
end Go.Proofs.Qxb6616254a
