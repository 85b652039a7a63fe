/-
  FnGuardShutDownIsFinalAndIdempotent, walked.
-/
import Derived.Test.Qxb6616254aLawA
namespace Go.Proofs.Qxb6616254a
open Go.RowKit Go.Maps

theorem Grd.block {w w' : World} {g : Nat} {up lo st : Nat → Int} {sh : Bool} {act ntf : Int} (h : Grd w g up lo st sh act ntf) (hb : w'.heap[g]? = w.heap[g]?) : Grd w' g up lo st sh act ntf := by
  have hc : ∀ o, w'.cell? ⟨g, o, none⟩ = w.cell? ⟨g, o, none⟩ := fun o => World.cell?_of_block (w := w) (a := ⟨g, o, none⟩) hb
  have hf : ∀ o, w'.frozen? ⟨g, o, none⟩ = w.frozen? ⟨g, o, none⟩ := fun o => World.frozen?_of_block (w := w) (a := ⟨g, o, none⟩) hb
  exact ⟨by rw [hc]; exact h.act, by rw [hc]; exact h.ntf, fun k hk => by rw [hc]; exact h.up k hk, fun k hk => by rw [hc]; exact h.lo k hk, fun k hk => by rw [hc]; exact h.st k hk, fun k hk => by rw [hc]; exact h.lv k hk,
    fun k hk => by rw [hc]; exact h.tot k hk, fun k hk => by rw [hc]; exact h.sto k hk, fun k hk => by rw [hc]; exact h.hi k hk, by rw [hc]; exact h.sh, fun o => by rw [hf]; exact h.fr o⟩

/-- The array 'first' behind k rounds. -/
def Fs (F : Nat) (st : Nat → Int) (k : Nat) (W : World) : Prop :=
  (∀ j, j < 4 → W.cell? ⟨F, j, none⟩ = some (.int .i64 (if j < k then st j else 0))) ∧ ∀ o, W.frozen? ⟨F, o, none⟩ = false

theorem Fs.new (w : World) (st : Nat → Int) : Fs w.heap.size st 0 (w.alloc (.cells #[.int .i64 0, .int .i64 0, .int .i64 0, .int .i64 0] 42)) := by
  refine ⟨fun j hj => ?_, fun o => World.frozen?_alloc_at _ _ _ _ rfl⟩
  rw [World.cell?_alloc_at _ _ _ _ rfl]
  obtain rfl | rfl | rfl | rfl : j = 0 ∨ j = 1 ∨ j = 2 ∨ j = 3 := by omega
  all_goals rfl

theorem Fs.block {F k : Nat} {st : Nat → Int} {w w' : World} (h : Fs F st k w) (hb : w'.heap[F]? = w.heap[F]?) : Fs F st k w' :=
  ⟨fun j hj => by rw [World.cell?_of_block (w := w) (a := ⟨F, j, none⟩) hb]; exact h.1 j hj, fun o => by rw [World.frozen?_of_block (w := w) (a := ⟨F, o, none⟩) hb]; exact h.2 o⟩

theorem Fs.put {F k : Nat} {st : Nat → Int} {w : World} (h : Fs F st k w) (hk : k < 4) : Fs F st (k + 1) (w.setCell ⟨F, k, none⟩ (.int .i64 (st k))) := by
  refine ⟨fun j hj => ?_, fun o => by rw [World.frozen?_setCell]; exact h.2 o⟩
  by_cases e : j = k
  · subst e
    rw [cell_same (h.1 j hj), if_pos (by omega)]
  · rw [cell_other (by omega), h.1 j hj]
    have : (j < k + 1) = (j < k) := by simp; omega
    simp only [this]

/-- What stands through the whole of the law's second half. -/
structure St (w : World) (g F : Nat) (b0 b1 b2 b3 : Bool) (u0 u1 u2 u3 l0 l1 l2 l3 : Int) (up lo st : Nat → Int) (ac nt : Int) (k : Nat) (W : World) : Prop where
  G : Grd W g up lo st true ac nt
  X : Bx w.heap.size b0 b1 b2 b3 u0 u1 u2 u3 l0 l1 l2 l3 W
  S : Fs F st k W
  bel : Below w.heap.size w W
  g3 : w.heap.size + 3 ≤ g
  gF : g < F
  F4 : F < W.heap.size

theorem St.put {w : World} {g F : Nat} {b0 b1 b2 b3 : Bool} {u0 u1 u2 u3 l0 l1 l2 l3 : Int} {up lo st : Nat → Int} {ac nt : Int} {k : Nat} {W : World} (h : St w g F b0 b1 b2 b3 u0 u1 u2 u3 l0 l1 l2 l3 up lo st ac nt k W) (hk : k < 4) :
    St w g F b0 b1 b2 b3 u0 u1 u2 u3 l0 l1 l2 l3 up lo st ac nt (k + 1) (W.setCell ⟨F, k, none⟩ (.int .i64 (st k))) := by
  have hg : W.grownBy (W.setCell ⟨F, k, none⟩ (.int .i64 (st k))) (some F) := grown_setCell (World.grownBy.refl _ _) _
  have h1 := h.g3
  have h2 := h.gF
  have h3 := h.F4
  exact ⟨h.G.block (hg.block g (by omega) (by intro e; cases e; omega)), h.X.grown hg (by omega), h.S.put hk, below_grown h.bel hg (by omega) h.bel.size, h1, h2, Nat.lt_of_lt_of_le h3 hg.size⟩

/-- A step that writes the guard's own block alone. -/
theorem St.turn {w : World} {g F : Nat} {b0 b1 b2 b3 : Bool} {u0 u1 u2 u3 l0 l1 l2 l3 : Int} {up lo st : Nat → Int} {ac nt ac' nt' : Int} {k : Nat} {W W' : World} (h : St w g F b0 b1 b2 b3 u0 u1 u2 u3 l0 l1 l2 l3 up lo st ac nt k W) (hG : Grd W' g up lo st true ac' nt') (hg : W.grownBy W' (some g)) :
    St w g F b0 b1 b2 b3 u0 u1 u2 u3 l0 l1 l2 l3 up lo st ac' nt' k W' := by
  have h1 := h.g3
  have h2 := h.gF
  have h3 := h.F4
  exact ⟨hG, h.X.grown hg h1, h.S.block (hg.block F h3 (by intro e; cases e; omega)), below_grown h.bel hg (by omega) h.bel.size, h1, h2, Nat.lt_of_lt_of_le h3 hg.size⟩

/-- A step that makes blocks alone. -/
theorem St.below {w : World} {g F : Nat} {b0 b1 b2 b3 : Bool} {u0 u1 u2 u3 l0 l1 l2 l3 : Int} {up lo st : Nat → Int} {ac nt : Int} {k : Nat} {W W' : World} (h : St w g F b0 b1 b2 b3 u0 u1 u2 u3 l0 l1 l2 l3 up lo st ac nt k W) (hb : Below W.heap.size W W') :
    St w g F b0 b1 b2 b3 u0 u1 u2 u3 l0 l1 l2 l3 up lo st ac nt k W' := by
  have h1 := h.g3
  have h2 := h.gF
  have h3 := h.F4
  exact ⟨h.G.below hb (by omega), h.X.below hb (by omega), h.S.block (hb.block F h3), h.bel.trans (hb.mono h.bel.size), h1, h2, Nat.lt_of_lt_of_le h3 hb.size⟩

theorem shutOf_twice (s : Int) : shutOf (shutOf s) = shutOf s := by unfold shutOf; split <;> simp_all

set_option maxHeartbeats 1000000 in
theorem lawB_any (sp iv ac nt hs : Int) (b0 b1 b2 b3 : Bool) (u0 u1 u2 u3 l0 l1 l2 l3 : Int) (ac2 nt2 : Int) (w : World) :
    Calls Try.prog 4 #[.int .u64 sp, .int .i64 iv, .int .i64 ac, .int .i64 nt, .int .i64 hs, .agg #[.bool b0, .bool b1, .bool b2, .bool b3], .agg #[.int .i64 u0, .int .i64 u1, .int .i64 u2, .int .i64 u3], .agg #[.int .i64 l0, .int .i64 l1, .int .i64 l2, .int .i64 l3], .int .i64 ac2, .int .i64 nt2] w fun e w' => e = .returned (.bool true) ∧ Below w.heap.size w w' := by
  have HBX := hid (bx3 w b0 b1 b2 b3 u0 u1 u2 u3 l0 l1 l2 l3)
  go_enter Try.func4, Try.ntmps4
  go_wp2_with fail
  refine (build_any b0 b1 b2 b3 u0 u1 u2 u3 l0 l1 l2 l3 _).mono ?_
  rintro e w1 ⟨bm, D, rfl, hbm, hmap, hdat, hb1⟩
  go_wp2_with fail
  refine (zzNewGuard_any sp iv ac nt hs bm 4 D (sel b0 b1 b2 b3) (sel u0 u1 u2 u3) (sel l0 l1 l2 l3) w1 hmap hdat).mono ?_
  rintro e w2 ⟨g, rfl, hg1, hg2, hG, hb2⟩
  have hbx1 := HBX.out.below hb1 (by simp)
  have hs1 := hb1.size
  have hbx2 := hbx1.below hb2 (by simp at hs1; omega)
  have hbel2 : Below w.heap.size w w2 := (below3 _ _ _ _).trans ((hb1.mono (by simp; omega)).trans (hb2.mono (by simp at hs1; omega)))
  have hg3 : w.heap.size + 3 ≤ g := by simp at hs1; omega
  clear HBX hbm hmap hdat hb1 hbx1 hs1 hb2 hg1
  go_wp2_with fail
  refine (zzShutDown_any g _ _ _ _ _ _ w2 hG).mono ?_
  rintro e w3 ⟨rfl, hG3, hgrow⟩
  have hX3 := hbx2.grown hgrow hg3
  have hg4 : g < w3.heap.size := Nat.lt_of_lt_of_le hg2 hgrow.size
  have hbel3 := below_grown hbel2 hgrow (by omega) hbel2.size
  have hbA : Below w3.heap.size w3 (w3.alloc (.cells #[.int .i64 0, .int .i64 0, .int .i64 0, .int .i64 0] 42)) := (Below.refl _ _).alloc (Nat.le_refl _) _
  have H0 := hid (show St w g w3.heap.size b0 b1 b2 b3 u0 u1 u2 u3 l0 l1 l2 l3 _ _ _ ac nt 0 (w3.alloc (.cells #[.int .i64 0, .int .i64 0, .int .i64 0, .int .i64 0] 42)) from
    ⟨hG3.below hbA hg4, hX3.below hbA (by omega), Fs.new w3 _, hbel3.trans (hbA.mono hbel3.size), hg3, hg4, by simp⟩)
  clear hG hbx2 hbel2 hg2 hgrow hG3 hX3 hbel3 hbA
  go_wp2_with fail
  go_loopw [23] (fun i wr => ∃ k : Nat, k ≤ 4 ∧ i = .int .i64 k ∧ St w g w3.heap.size b0 b1 b2 b3 u0 u1 u2 u3 l0 l1 l2 l3 (upF (sel b0 b1 b2 b3) (sel u0 u1 u2 u3)) (upF (sel b0 b1 b2 b3) (sel l0 l1 l2 l3)) (fun k => shutOf (stF (sel b0 b1 b2 b3) (sel u0 u1 u2 u3) k)) ac nt k wr) (fun i _ => 4 - (intOf i).toNat)
  case atStart => exact ⟨0, by omega, rfl, H0.out⟩
  case round =>
    clear H0
    obtain ⟨k, hk, rfl, hR⟩ := hrel
    by_cases hlt : k < 4
    · have hst := hR.G.st k hlt
      have hc := hR.S.1 k hlt
      have hf := hR.S.2 k
      have HN := hid (hR.put hlt)
      clear hR
      go_wp2_with fail
      refine (status_any g k _ _ hlt hst).mono ?_
      rintro e w4 ⟨rfl, rfl⟩
      clear hst
      go_wp2_with fail
      go_roundw
      case rel => exact ⟨k + 1, by omega, by go_num, HN.out⟩
      case measure => simp [intOf]; omega
    · obtain rfl : k = 4 := by omega
      have cA := hR.G.act
      have fA := hR.G.fr 2
      go_wp2_with fail
      refine (setAction_any g _ ac2 _ cA fA).mono ?_
      rintro e w4 ⟨rfl, hw4⟩
      have h4 := hR.turn (hR.G.setAct ac2) (grown_setCell (World.grownBy.refl _ _) _)
      rw [← hw4] at h4
      clear hw4 cA fA hR
      have cN := h4.G.ntf
      have fN := h4.G.fr 3
      go_wp2_with fail
      refine (setNotify_any g _ nt2 _ cN fN).mono ?_
      rintro e w5 ⟨rfl, hw5⟩
      have h5 := h4.turn (h4.G.setNtf nt2) (grown_setCell (World.grownBy.refl _ _) _)
      rw [← hw5] at h5
      clear hw5 cN fN h4
      go_wp2_with fail
      refine (zzShutDown_any g _ _ _ _ _ _ w5 h5.G).mono ?_
      rintro e w6 ⟨rfl, hG6, hgrow6⟩
      have h6 := h5.turn (hG6.st_congr (fun j _ => shutOf_twice _)) hgrow6
      clear hG6 hgrow6 h5
      go_wp2_with fail
      go_loopw [24] (fun i wr => ∃ k : Nat, k ≤ 4 ∧ i = .int .i64 k ∧ St w g w3.heap.size b0 b1 b2 b3 u0 u1 u2 u3 l0 l1 l2 l3 (upF (sel b0 b1 b2 b3) (sel u0 u1 u2 u3)) (upF (sel b0 b1 b2 b3) (sel l0 l1 l2 l3)) (fun k => shutOf (stF (sel b0 b1 b2 b3) (sel u0 u1 u2 u3) k)) ac2 nt2 4 wr) (fun i _ => 4 - (intOf i).toNat)
      case atStart => exact ⟨0, by omega, rfl, h6⟩
      case round =>
        clear h6
        obtain ⟨k, hk, rfl, hR⟩ := hrel
        by_cases hlt : k < 4
        · have hst := hR.G.st k hlt
          have hc := hR.S.1 k hlt
          rw [if_pos hlt] at hc
          dsimp only at hst hc
          obtain ⟨p0, q0, _⟩ := hR.X 0 (by omega)
          obtain ⟨p1, q1, _⟩ := hR.X 1 (by omega)
          obtain ⟨p2, q2, _⟩ := hR.X 2 (by omega)
          obtain ⟨p3, q3, _⟩ := hR.X 3 (by omega)
          simp only [sel] at p0 p1 p2 p3 q0 q1 q2 q3
          have HGD := hid (guarded_any b0 b1 b2 b3 u0 u1 u2 u3 wr k hlt)
          have HR := hid hR
          clear hR
          by_cases hgb : gB (sel b0 b1 b2 b3 k) (sel u0 u1 u2 u3 k) = true
          · have es : shutOf (stF (sel b0 b1 b2 b3) (sel u0 u1 u2 u3) k) = 5 := by simp [shutOf, stF, hgb]
            rw [es] at hst hc
            rw [hgb] at HGD
            clear es hgb
            go_wp2_with fail
            refine (status_any g k 5 _ hlt hst).mono ?_
            rintro e w7 ⟨rfl, rfl⟩
            go_wp2_with fail
            refine HGD.out.mono ?_
            rintro e w8 ⟨rfl, hb8⟩
            go_wp2_with fail
            go_roundw
            case rel => exact ⟨k + 1, by omega, by go_num, HR.out.below hb8⟩
            case measure => simp [intOf]; omega
          · have hgb : gB (sel b0 b1 b2 b3 k) (sel u0 u1 u2 u3 k) = false := by simpa using hgb
            have es : shutOf (stF (sel b0 b1 b2 b3) (sel u0 u1 u2 u3) k) = 1 := by simp [shutOf, stF, hgb]
            rw [es] at hst hc
            rw [hgb] at HGD
            clear es hgb
            go_wp2_with fail
            refine (status_any g k 1 _ hlt hst).mono ?_
            rintro e w7 ⟨rfl, rfl⟩
            go_wp2_with fail
            refine HGD.out.mono ?_
            rintro e w8 ⟨rfl, hb8⟩
            go_wp2_with fail
            go_roundw
            case rel => exact ⟨k + 1, by omega, by go_num, HR.out.below hb8⟩
            case measure => simp [intOf]; omega
        · have HR := hid hR
          clear hR
          go_wp2_with fail
          refine (action_any g ac2 _ HR.out.G.act).mono ?_
          rintro e w7 ⟨rfl, rfl⟩
          go_wp2_with fail
          refine (notify_any g nt2 _ HR.out.G.ntf).mono ?_
          rintro e w7 ⟨rfl, rfl⟩
          go_wp2_with fail
          refine (shut_any g true _ HR.out.G.sh).mono ?_
          rintro e w7 ⟨rfl, rfl⟩
          go_wp2
          go_ret
          exact ⟨rfl, HR.out.bel⟩
end Go.Proofs.Qxb6616254a
