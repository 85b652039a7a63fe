/-
  FnGroupLinesMatchesAFirstOccurrenceModel, walked.
-/
import Derived.Test.Qxb6616265aGroup
import Derived.Test.Qxb6616265aFin
import Derived.Deep.QuietTactic
import Derived.BigQuiet
import Derived.Deep.RegionHeld3
import Derived.Deep.DrawnRows
namespace Go.Proofs.Qxb6616265a
open Go.RowKit Go.Maps Go.Deep
attribute [local go_sem ↓] Go.wp_at_zero Go.wp_at_succ
/-- The number that the law's 'leader' array holds for line k. -/
def ldr (c : Nat → Nat) (key : Nat → ByteArray) (k : Nat) : Int := if c k = 0 then -1 else (lead c key k : Int)
/-- The law's memory while the leaders are laid. -/
structure M3 (w : World) (n : Nat) (g : Nat → Value) (wr : World) : Prop where
  bel : Below w.heap.size w wr
  row : wr.rowIs w.heap.size 3 n g
theorem M3.set {w wr : World} {n k : Nat} {g : Nat → Value} (h : M3 w n g wr) (x : Int) : M3 w n (fun j => if j = k then .int .i64 x else g j) (wr.setCell ⟨w.heap.size, k, none⟩ (.int .i64 x)) :=
  ⟨h.bel.setCell (Nat.le_refl _) _, h.row.set k _⟩
theorem M3.put {w wr : World} {n k : Nat} {c : Nat → Nat} {key : Nat → ByteArray} (h : M3 w n (fun j => if j < k then .int .i64 (ldr c key j) else .int .i64 0) wr) (_hk : k < n) {x : Int} (hx : x = ldr c key k) :
    M3 w n (fun j => if j < k + 1 then .int .i64 (ldr c key j) else .int .i64 0) (wr.setCell ⟨w.heap.size, k, none⟩ (.int .i64 x)) := by
  have h1 := h.set (k := k) x
  refine ⟨h1.bel, h1.row.congr (fun j _ => ?_)⟩
  by_cases e : j = k
  · subst e; simp [hx]
  · have : (j < k + 1) = (j < k) := by simp; omega
    simp only [if_neg e, this]
theorem M3.put2 {w wr : World} {n k : Nat} {c : Nat → Nat} {key : Nat → ByteArray} (h : M3 w n (fun j => if j = k then .int .i64 (-1) else if j < k then .int .i64 (ldr c key j) else .int .i64 0) wr) (_hk : k < n) {x : Int} (hx : x = ldr c key k) :
    M3 w n (fun j => if j < k + 1 then .int .i64 (ldr c key j) else .int .i64 0) (wr.setCell ⟨w.heap.size, k, none⟩ (.int .i64 x)) := by
  have h1 := h.set (k := k) x
  refine ⟨h1.bel, h1.row.congr (fun j _ => ?_)⟩
  by_cases e : j = k
  · subst e; simp [hx]
  · have : (j < k + 1) = (j < k) := by simp; omega
    simp only [if_neg e, this]
/-- A draw ahead of the store turns nothing. -/
theorem M3.draws {w wr : World} {n m : Nat} {g : Nat → Value} {a : Addr} {x : Value} (h : M3 w n g ((wr.drewN m).setCell a x)) (m' : Nat) : M3 w n g ((wr.drewN m').setCell a x) :=
  ⟨⟨h.bel.os, h.bel.tape, h.bel.output, h.bel.size, h.bel.block⟩, h.row⟩
/-- Blocks made, and one row of the call's own written: the leaders stand. -/
theorem M3.grown {w wr w5 w6 : World} {n : Nat} {g : Nat → Value} {o : Obj} {row : Option Nat} (h : M3 w n g wr) (hb : Below wr.heap.size wr w5) (hg : (w5.alloc o).grownBy w6 row) (hr : ∀ b, row = some b → w.heap.size + 1 ≤ b) : M3 w n g w6 := by
  have h1 : Below wr.heap.size wr (w5.alloc o) := hb.alloc hb.size o
  have h2 := h.row.lt
  refine ⟨(h.bel.trans (h1.mono h.bel.size)).grown hg (by have := h1.size; omega) (fun b e => by have := hr b e; omega), h.row.of_block ?_⟩
  rw [hg.block w.heap.size (by have := h1.size; omega) (fun e => by have := hr _ e.symm; omega), h1.block _ h2]
theorem M3.below {w wr w5 : World} {n : Nat} {g : Nat → Value} (h : M3 w n g wr) (hb : Below wr.heap.size wr w5) : M3 w n g w5 :=
  ⟨h.bel.trans (hb.mono h.bel.size), h.row.of_block (hb.block _ h.row.lt)⟩
theorem step_f {c : Nat → Nat} {key : Nat → ByteArray} {f k : Nat} (h : ∀ j, j < f → c j = 0 ∨ key j ≠ key k) (hf : c f = 0 ∨ key f ≠ key k) : ∀ j, j < f + 1 → c j = 0 ∨ key j ≠ key k := fun j hj => by
  by_cases e : j = f
  · subst e; exact hf
  · exact h j (by omega)
theorem M3.drewN {w wr : World} {n : Nat} {g : Nat → Value} (h : M3 w n g wr) (m : Nat) : M3 w n g (wr.drewN m) := ⟨h.bel.trans ⟨rfl, rfl, rfl, Nat.le_refl _, fun _ _ => rfl⟩, h.row⟩
set_option maxHeartbeats 4000000 in
set_option maxRecDepth 100000 in
theorem lawG_any (a0 a1 a2 : Option Addr) (n0 c0 n1 c1 n2 c2 : Nat) (c : Nat → Nat) (key : Nat → ByteArray) (tg : Nat → Int) (w : World) (h0 : Row0 w a0 n0 (fun k => .int .u8 (c k))) (h1 : Row0 w a1 n1 (fun k => .string (key k))) (h2 : Row0 w a2 n2 (fun k => .int .u32 (tg k)))
    (hc : ∀ k, k < n0 → c k ≤ 255) (hks : ∀ k, k < n1 → (key k).size ≤ maxLen) :
    Calls Try.prog 5 #[.slice a0 n0 c0, .slice a1 n1 c1, .slice a2 n2 c2] w fun e w' => e = .returned (.bool true) ∧ Below w.heap.size w w' := by
  have H0 := hid h0
  have H1 := hid h1
  have H2 := hid h2
  have HC := hid hc
  have HK := hid hks
  clear h0 h1 h2 hc hks
  go_enter Try.func5, Try.ntmps5
  go_wp2_with fail
  refine (zzBytes_any a0 a1 a2 n0 c0 n1 c1 n2 c2 key w H1.out).mono ?_
  rintro e w' ⟨rfl, rfl | ⟨rfl, b0, b1, b2⟩⟩
  · go_wp2
    go_ret
    exact ⟨rfl, Below.refl _ _⟩
  by_cases l0 : n0 ≤ 65536
  rotate_left
  · go_wp2
    go_ret
    exact ⟨rfl, Below.refl _ _⟩
  by_cases l1 : n1 ≤ 65536
  rotate_left
  · go_wp2
    go_ret
    exact ⟨rfl, Below.refl _ _⟩
  by_cases l2 : n2 ≤ 65536
  rotate_left
  · go_wp2
    go_ret
    exact ⟨rfl, Below.refl _ _⟩
  clear b0 b1 b2
  go_wp2
  go_loop [7, 8] (fun t i => ∃ k : Nat, k ≤ n1 ∧ i = .int .i64 k ∧ ∃ z : Int, 0 ≤ z ∧ z ≤ 1048576 ∧ t = .int .i64 z) (fun _ i => n1 - (intOf i).toNat)
  case atStart => exact ⟨0, by omega, rfl, _, by omega, by omega, rfl⟩
  case round =>
    obtain ⟨k, hk, rfl, z, hz0, hz1, rfl⟩ := hrel
    by_cases hlt : k < n1
    · rcases H1.out with hr | ⟨b, off, rfl, hb, hcc⟩
      · omega
      have hck : w'.cell? ⟨b, off + k, none⟩ = some (.string (key k)) := hcc k hlt
      generalize hs : key k = s at hck
      clear hs hcc
      by_cases h3 : s.size ≤ 1048576
      · by_cases h4 : z + (s.size + 16) ≤ 1048576
        · go_wp2
          go_round
          case rel => exact ⟨k + 1, by omega, by go_num, _, by omega, h4, rfl⟩
          case measure => simp [intOf]; omega
        · go_wp2
          go_ret
          exact ⟨rfl, Below.refl _ _⟩
      · go_wp2
        go_ret
        exact ⟨rfl, Below.refl _ _⟩
    · go_wp2
      go_loop [7, 9] (fun t i => ∃ k : Nat, k ≤ n0 ∧ i = .int .i64 k ∧ ∃ z : Int, 0 ≤ z ∧ z ≤ 1048576 ∧ t = .int .i64 z) (fun _ i => n0 - (intOf i).toNat)
      case atStart => exact ⟨0, by omega, rfl, _, hz0, hz1, rfl⟩
      case round =>
        clear hz0 hz1
        obtain ⟨k2, hk2, rfl, z2, hz0, hz1, rfl⟩ := hrel
        by_cases hlt2 : k2 < n0
        · rcases H0.out with hr | ⟨b, off, rfl, hb, hcc⟩
          · omega
          have hck : w'.cell? ⟨b, off + k2, none⟩ = some (.int .u8 (c k2)) := hcc k2 hlt2
          have hcb := HC.out k2 hlt2
          clear hcc
          by_cases h4 : z2 + 64 * (c k2 : Int) ≤ 1048576
          · go_wp2
            go_round
            case rel => exact ⟨k2 + 1, by omega, by go_num, _, by omega, h4, rfl⟩
            case measure => simp [intOf]; omega
          · go_wp2
            go_ret
            exact ⟨rfl, Below.refl _ _⟩
        · by_cases e1 : n0 = n1
          rotate_left
          · have e1' : ((n0 : Int) != n1) = true := by simp; omega
            go_wp2
            go_ret
            exact ⟨rfl, Below.refl _ _⟩
          by_cases e2 : n2 = n1
          rotate_left
          · have e2' : ((n2 : Int) != n1) = true := by simp; omega
            subst e1
            go_wp2
            go_ret
            exact ⟨rfl, Below.refl _ _⟩
          subst e1
          subst e2
          have hmk := run_make_row' (P := Try.prog) 28 3 (.int .i64 0) 8 Try.underlying28 Try.info3 rfl .i64 .i64 n2 (by omega) (by omega)
          have HR := hid (show M3 w' n2 (fun j => if j < 0 then .int .i64 (ldr c key j) else .int .i64 0) (w'.alloc (.cells (madeCells #[.int .i64 0] n2) 3)) from ⟨(Below.refl _ _).alloc (Nat.le_refl _) _, World.rowIs_made w' (.int .i64 0) n2 3⟩)
          go_wp2
          clear hmk
          go_loopw [12] (fun i wr => ∃ k : Nat, k ≤ n2 ∧ i = .int .i64 k ∧ M3 w' n2 (fun j => if j < k then .int .i64 (ldr c key j) else .int .i64 0) wr) (fun i _ => n2 - (intOf i).toNat)
          case atStart => exact ⟨0, by omega, rfl, HR.out⟩
          case round =>
            clear HR
            obtain ⟨k3, hk3, rfl, hM⟩ := hrel
            by_cases hlt3 : k3 < n2
            · rcases H0.out with hr | ⟨b0, o0, rfl, hb0, hc0⟩
              · omega
              rcases H1.out with hr | ⟨b1, o1, rfl, hb1, hc1⟩
              · omega
              rcases H2.out with hr | ⟨b2, o2, rfl, hb2, hc2⟩
              · omega
              have d0 : wr.cell? ⟨b0, o0 + k3, none⟩ = some (.int .u8 (c k3)) := by rw [hM.bel.cell (p := ⟨b0, o0 + k3, none⟩) hb0]; exact hc0 k3 hlt3
              have l0 := hM.row.cell hlt3
              have lf := hM.row.frozen k3
              by_cases hz : c k3 = 0
              · rw [hz] at d0
                have HN := hid (hM.put hlt3 (show (-1 : Int) = ldr c key k3 by simp [ldr, hz]))
                clear hM hz hc0 hc1 hc2
                go_wp2
                go_roundw
                case rel => exact ⟨k3 + 1, by omega, by go_num, HN.out⟩
                case measure => simp [intOf]; omega
              · have hzb : ((c k3 : Int) == 0) = false := by simpa using hz
                have HM := hid (hM.set (k := k3) (-1))
                have HZ := hid hz
                have HC0 := hid hc0
                have HC1 := hid hc1
                have HC2 := hid hc2
                clear hM hz hc0 hc1 hc2
                go_wp2
                go_loopw [13] (fun i wx => ∃ f : Nat, f ≤ k3 ∧ i = .int .i64 f ∧ Hid (∀ j, j < f → c j = 0 ∨ key j ≠ key k3) ∧ M3 w' n2 (fun j => if j = k3 then .int .i64 (-1) else if j < k3 then .int .i64 (ldr c key j) else .int .i64 0) wx) (fun i _ => k3 - (intOf i).toNat)
                case atStart => exact ⟨0, by omega, rfl, hid (fun j hj => by omega), HM.out⟩
                case round =>
                  clear HM d0 l0 lf
                  obtain ⟨f, hf, rfl, HF, hM⟩ := hrel
                  have x0 : ∀ j, j ≤ k3 → wr.cell? ⟨b0, o0 + j, none⟩ = some (.int .u8 (c j)) := fun j hj => by rw [hM.bel.cell (p := ⟨b0, o0 + j, none⟩) hb0]; exact HC0.out j (by omega)
                  have x1 : ∀ j, j ≤ k3 → wr.cell? ⟨b1, o1 + j, none⟩ = some (.string (key j)) := fun j hj => by rw [hM.bel.cell (p := ⟨b1, o1 + j, none⟩) hb1]; exact HC1.out j (by omega)
                  have x2 : ∀ j, j ≤ k3 → wr.cell? ⟨b2, o2 + j, none⟩ = some (.int .u32 (tg j)) := fun j hj => by rw [hM.bel.cell (p := ⟨b2, o2 + j, none⟩) hb2]; exact HC2.out j (by omega)
                  have y0 := x0 f hf
                  have y1 := x1 f hf
                  have y2 := x1 k3 (Nat.le_refl _)
                  have X2 := hid x2
                  clear x0 x1 x2
                  have TF := hid (And.intro (X2.out f hf) (X2.out k3 (Nat.le_refl _)))
                  clear X2
                  by_cases hfk : f < k3
                  · have hd : decide ((f : Int) < (k3 : Int)) = true := by simpa using hfk
                    by_cases hzf : c f = 0
                    · rw [hzf] at y0
                      have HN := hid (step_f HF.out (.inl hzf))
                      have HM := hid hM
                      clear hzf hM
                      go_wp2_with fail
                      go_quiet (fail)
                      go_wp2
                      go_roundw
                      case rel => exact ⟨f + 1, by omega, by go_num, HN, HM.out.drewN _⟩
                      case measure => simp [intOf]; omega
                    · have hzfb : ((c f : Int) == 0) = false := by simpa using hzf
                      by_cases hkk : key f = key k3
                      · have hkb : ((key f).toList == (key k3).toList) = true := by rw [hkk]; simp
                        have HLD := hid (lead_uniq HZ.out hzf hkk HF.out)
                        have HM := hid hM
                        clear hzf hM hkk
                        go_wp2_with fail
                        go_quiet (fail)
                        have hM := HM.out.drewN nq
                        obtain ⟨t0, t1⟩ := TF.out
                        have l3 := HM.out.row.cell hlt3
                        have lf3 := HM.out.row.frozen k3
                        have HB := hid hM.bel
                        clear HM
                        by_cases htt : tg f = tg k3
                        · rw [htt] at t0
                          have HN := hid (hM.put2 hlt3 (show (f : Int) = ldr c key k3 by simp [ldr, HZ.out, HLD.out]))
                          clear hM htt
                          go_wp2
                          go_quiet (fail)
                          go_wp2
                          go_roundw
                          case rel => exact ⟨k3 + 1, by omega, by go_num, HN.out.draws _⟩
                          case measure => simp [intOf]; omega
                        · have htb : (tg f != tg k3) = true := by simpa using htt
                          clear hM htt
                          go_wp2
                          go_quiet (fail)
                          go_wp2
                          go_ret
                          exact ⟨rfl, HB.out.trans ⟨rfl, rfl, rfl, Nat.le_refl _, fun _ _ => rfl⟩⟩
                      · have hkb : ((key f).toList == (key k3).toList) = false := by
                          rw [ByteArray.toList_eq, ByteArray.toList_eq]
                          simp
                          exact fun e => hkk (bytes_inj (by simpa using e))
                        have HN := hid (step_f HF.out (.inr hkk))
                        have HM := hid hM
                        clear hzf hM hkk
                        go_wp2_with fail
                        go_quiet (fail)
                        go_wp2
                        go_roundw
                        case rel => exact ⟨f + 1, by omega, by go_num, HN, HM.out.drewN _⟩
                        case measure => simp [intOf]; omega
                  · obtain rfl : f = k3 := by omega
                    have hd : decide ((f : Int) < (f : Int)) = false := by simp
                    have HLD := hid (lead_uniq HZ.out HZ.out rfl HF.out)
                    have HM := hid hM
                    clear hM
                    go_wp2_with fail
                    go_quiet (fail)
                    have hM := HM.out.drewN nq
                    obtain ⟨t0, t1⟩ := TF.out
                    have l3 := HM.out.row.cell hlt3
                    have lf3 := HM.out.row.frozen f
                    have HB := hid hM.bel
                    clear HM
                    have HN := hid (hM.put2 hlt3 (show (f : Int) = ldr c key f by simp [ldr, HZ.out, HLD.out]))
                    clear hM
                    go_wp2
                    go_quiet (fail)
                    go_wp2
                    go_roundw
                    case rel => exact ⟨f + 1, by omega, by go_num, HN.out.draws _⟩
                    case measure => simp [intOf]; omega
            · obtain rfl : k3 = n2 := by omega
              have hM5 : M3 w' k3 (fun j => .int .i64 (ldr c key j)) wr := ⟨hM.bel, hM.row.congr (fun j hj => if_pos hj)⟩
              have HM := hid hM5
              clear hM hM5
              go_wp2_with fail
              refine (noLines_any _).mono ?_
              rintro e w1 ⟨rfl, rfl⟩
              have HS := hid (show M5 (w'.heap.size + 1) c key tg (fun _ => 0) (fun _ => 0) (fun _ => 0) 0 (.slice none 0 0) w1 from ⟨World.ownsRow_nil _ _ _ _, fun j hj => by omega⟩)
              obtain ⟨i35, hi35, hz350, hz351, hz352⟩ := info_parts Try.info35
              go_wp2_with fail
              go_loopw [14, 15] (fun v i wr => ∃ (k : Nat) (sa : Option Addr) (sc : Nat) (p q r : Nat → Nat), k ≤ k3 ∧ i = .int .i64 k ∧ v = .slice sa k sc ∧ M5 (w'.heap.size + 1) c key tg p q r k v wr ∧ M3 w' k3 (fun j => .int .i64 (ldr c key j)) wr) (fun _ i _ => k3 - (intOf i).toNat)
              case atStart => exact ⟨0, none, 0, _, _, _, by omega, rfl, rfl, HS.out, HM.out⟩
              case round =>
                clear HS HM
                obtain ⟨k5, sa, sc, p, q, r, hk5, rfl, rfl, hS, hM⟩ := hrel
                by_cases hlt5 : k5 < k3
                · rcases H0.out with hr | ⟨b0, o0, rfl, hb0, hc0⟩
                  · omega
                  rcases H1.out with hr | ⟨b1, o1, rfl, hb1, hc1⟩
                  · omega
                  rcases H2.out with hr | ⟨b2, o2, rfl, hb2, hc2⟩
                  · omega
                  have d0 : wr.cell? ⟨b0, o0 + k5, none⟩ = some (.int .u8 (c k5)) := by rw [hM.bel.cell (p := ⟨b0, o0 + k5, none⟩) hb0]; exact hc0 k5 hlt5
                  have d1 : wr.cell? ⟨b1, o1 + k5, none⟩ = some (.string (key k5)) := by rw [hM.bel.cell (p := ⟨b1, o1 + k5, none⟩) hb1]; exact hc1 k5 hlt5
                  have d2 : wr.cell? ⟨b2, o2 + k5, none⟩ = some (.int .u32 (tg k5)) := by rw [hM.bel.cell (p := ⟨b2, o2 + k5, none⟩) hb2]; exact hc2 k5 hlt5
                  have hcb := HC.out k5 hlt5
                  have hwr : IntKind.i64.wrap ((c k5 : Nat) : Int) = (c k5 : Int) := by rw [IntKind.wrap_i64]; omega
                  have hsz := hM.bel.size
                  have hszr := hM.row.lt
                  have i0 : (0 : Int) ≤ (k5 : Int) := Int.natCast_nonneg _
                  have i1 : (k5 : Int) < (k3 : Int) := by omega
                  have q0 : some b0 ≠ (Value.slice sa k5 sc).ownBlock := fun e => by have := (hS.ls.lt _ e.symm).1; omega
                  have q1 : some b1 ≠ (Value.slice sa k5 sc).ownBlock := fun e => by have := (hS.ls.lt _ e.symm).1; omega
                  have q2 : some b2 ≠ (Value.slice sa k5 sc).ownBlock := fun e => by have := (hS.ls.lt _ e.symm).1; omega
                  have HS := hid hS
                  have HM := hid hM
                  clear hS hM hc0 hc1 hc2
                  go_wp2_with fail
                  go_region_held3 (fun w' => w'.cell? ⟨b0, o0 + k5, none⟩ = some (.int .u8 (c k5)) ∧ w'.cell? ⟨b1, o1 + k5, none⟩ = some (.string (key k5)) ∧ w'.cell? ⟨b2, o2 + k5, none⟩ = some (.int .u32 (tg k5)))
                    (first
                      | go_keep
                      | (go_split_ands
                         refine ⟨?_, ?_, ?_⟩
                         · (rw [hb5.cell (p := ⟨b0, o0 + k5, none⟩) (by simp; omega)]; simpa using d0)
                         · (rw [hb5.cell (p := ⟨b1, o1 + k5, none⟩) (by simp; omega)]; simpa using d1)
                         · (rw [hb5.cell (p := ⟨b2, o2 + k5, none⟩) (by simp; omega)]; simpa using d2))
                      | (go_split_ands
                         refine ⟨?_, ?_, ?_⟩
                         · (rw [hgrow.cell_far _ (by simp; have := hb5.size; simp at this; omega) q0]; assumption)
                         · (rw [hgrow.cell_far _ (by simp; have := hb5.size; simp at this; omega) q1]; assumption)
                         · (rw [hgrow.cell_far _ (by simp; have := hb5.size; simp at this; omega) q2]; assumption)))
                    (first
                      | (go_at_call 13; (try rw [hwr]); refine (newLine_any _ _ _ _ hcb).mono ?_; rintro e w5 ⟨p5, q5, r5, rfl, hb5, hw5⟩)
                      | (have _hb5 := hb5; refine step_append_lies _ (by rfl) _ _ _ (by rfl) (w'.heap.size + 1) 35 i35 _ 3 32 Try.underlying30 hi35 hz350 hz351 hz352 rfl (by omega) (.slice sa k5 sc) k5 (lsRow p k5) (by rfl) ((row_below (w := wr.drew) HS.out.ls hb5).alloc _)
                          ⟨w5.heap.size, 0, none⟩ 1 1 [.string ⟨#[]⟩, .pointer none, .pointer (some ⟨p5, 0, none⟩)] (by rfl) (by rfl) (World.news_of_block (heap_alloc_new w5 _)) (by simp [Value.oneCell'])
                          (by omega) (by unfold maxLen; omega) (by omega) (by have := hb5.size; simp at this ⊢; omega) (w5.heap.size + 1) (by simp) ?_; intro gg gcap w6 hown6 hgrow hat hlt6))
                  have hb5' : Below wr.heap.size wr w5 := ⟨hb5.os, hb5.tape, hb5.output, hb5.size, hb5.block⟩
                  obtain ⟨p', q', r', hS'⟩ := HS.out.step (by omega) hb5' hw5 hown6 hgrow
                  have HS' := hid hS'
                  have HM' := hid (HM.out.grown hb5' hgrow (fun b e => (HS.out.ls.lt b e).1))
                  rename_i hSS
                  clear hSS hS' hb5' hb5 hw5 hown6 hgrow hat HS HM d0 d1 d2
                  go_wp2
                  go_roundw
                  case rel => exact ⟨k5 + 1, _, gcap, p', q', r', by omega, by go_num, rfl, HS'.out, HM'.out⟩
                  case measure => simp [intOf]; omega
                · obtain rfl : k5 = k3 := by omega
                  obtain ⟨hsc, b, hsa, hlin⟩ := hS.call HK.out
                  have HG := hid (zzGroupLines_any wr sa b k5 sc c key p q (by omega) hsa hsc hlin)
                  have HS := hid hS
                  have HM := hid hM
                  clear hS hM hlin hsa
                  go_wp2_with fail
                  refine HG.out.mono ?_
                  rintro e w9 ⟨ga, gc, rfl, hGI⟩
                  obtain ⟨_, hgc, lv, hGF⟩ := hGI.fin
                  have HM9 := hid (HM.out.below hGI.bel)
                  have HF9 := hid hGF
                  have HP9 := hid (fun j (hj : j < k5) => And.intro (cell_later hGI.bel (HS.out.pats hj).1) (cell_later hGI.bel (HS.out.pats hj).2))
                  obtain ⟨m, hm⟩ : ∃ m, m = (Lf c key k5).length := ⟨_, rfl⟩
                  have hmk : m ≤ k5 := by rw [hm]; exact Lf_len k5
                  have HMM := hid hm
                  rw [← hm] at hgc ⊢
                  clear HG HS HM hGI hGF hm
                  go_wp2_with fail
                  go_loopw [17, 18] (fun gi i wr => ∃ f : Nat, f ≤ k5 ∧ i = .int .i64 f ∧ gi = .int .i64 ((Lf c key f).length : Nat) ∧ Below w9.heap.size w9 wr) (fun _ i _ => k5 - (intOf i).toNat)
                  case atStart => exact ⟨0, by omega, rfl, rfl, Below.refl _ _⟩
                  case round =>
                    obtain ⟨f, hf, rfl, rfl, hb9⟩ := hrel
                    have hM := HM9.out.below hb9
                    have hG := HF9.out.below hb9
                    obtain ⟨gi, hgi⟩ : ∃ gi, gi = (Lf c key f).length := ⟨_, rfl⟩
                    have HGI := hid hgi
                    rw [← hgi]
                    clear hgi
                    by_cases hlt6 : f < k5
                    · have ld := hM.row.cell hlt6
                      by_cases hL : isL c key f = true
                      · have eL : ldr c key f = (f : Int) := by
                          obtain ⟨h1, h2⟩ := isL_iff.1 hL
                          simp [ldr, h1, h2]
                        rw [eL] at ld
                        clear eL
                        have hat : (Lf c key k5)[gi]? = some f := by rw [HGI.out]; exact Lf_at hL hlt6
                        have hgm : gi < m := by rw [HMM.out]; exact (List.getElem?_eq_some_iff.1 hat).1
                        obtain ⟨gb, hga, g0, g1, g2⟩ := hG.grp gi f hat
                        subst hga
                        rcases H1.out with hr | ⟨b1, o1, rfl, hb1, hc1⟩
                        · omega
                        rcases H2.out with hr | ⟨b2, o2, rfl, hb2, hc2⟩
                        · omega
                        have d1 : wr.cell? ⟨b1, o1 + f, none⟩ = some (.string (key f)) := by rw [hM.bel.cell (p := ⟨b1, o1 + f, none⟩) hb1]; exact hc1 f hlt6
                        have d2 : wr.cell? ⟨b2, o2 + f, none⟩ = some (.int .u32 (tg f)) := by rw [hM.bel.cell (p := ⟨b2, o2 + f, none⟩) hb2]; exact hc2 f hlt6
                        have hmem : f ∈ Lf c key k5 := List.mem_of_getElem? hat
                        obtain ⟨xq, xr⟩ := HP9.out f hlt6
                        have xq := cell_later hb9 xq
                        have xr := cell_later hb9 xr
                        obtain ⟨la, hla⟩ : ∃ la, la = (lv f).1 := ⟨_, rfl⟩
                        obtain ⟨lc, hlc⟩ : ∃ lc, lc = (lv f).2 := ⟨_, rfl⟩
                        obtain ⟨ll, hll⟩ : ∃ ll, ll = (Ln c key f k5).length := ⟨_, rfl⟩
                        have hllk : ll ≤ k5 := by rw [hll]; exact Ln_len f k5
                        have hlls : ll ≤ lc := by rw [hll, hlc]; exact (hG.lns f hmem).1
                        rw [← hla, ← hlc, ← hll] at g0
                        have HLL := hid (And.intro hla (And.intro hlc hll))
                        have HIL := hid hL
                        have hbA : Below wr.heap.size wr (wr.alloc (.cells #[.slice (some ⟨la, 0, none⟩) ll lc, .slice (some ⟨q f, 0, none⟩) 1 1, .string (key f)] 41)) := (Below.refl _ _).alloc (Nat.le_refl _) _
                        have e0 : (wr.alloc (.cells #[.slice (some ⟨la, 0, none⟩) ll lc, .slice (some ⟨q f, 0, none⟩) 1 1, .string (key f)] 41)).cell? ⟨wr.heap.size, 0, none⟩ = some (.slice (some ⟨la, 0, none⟩) ll lc) := by rw [World.cell?_alloc_at _ _ _ _ rfl]; rfl
                        have e1 : (wr.alloc (.cells #[.slice (some ⟨la, 0, none⟩) ll lc, .slice (some ⟨q f, 0, none⟩) 1 1, .string (key f)] 41)).cell? ⟨wr.heap.size, 1, none⟩ = some (.slice (some ⟨q f, 0, none⟩) 1 1) := by rw [World.cell?_alloc_at _ _ _ _ rfl]; rfl
                        have e2 : (wr.alloc (.cells #[.slice (some ⟨la, 0, none⟩) ll lc, .slice (some ⟨q f, 0, none⟩) 1 1, .string (key f)] 41)).cell? ⟨wr.heap.size, 2, none⟩ = some (.string (key f)) := by rw [World.cell?_alloc_at _ _ _ _ rfl]; rfl
                        have a1 := cell_later hbA d1
                        have a2 := cell_later hbA d2
                        have aq := cell_later hbA xq
                        have ar := cell_later hbA xr
                        have HB := hid (hb9.trans (hbA.mono hb9.size))
                        clear hla hlc hll hL hM hG hb9 hc1 hc2 d1 d2 xq xr hbA
                        go_wp2_with fail
                        generalize hwA : (wr.alloc (.cells #[.slice (some ⟨la, 0, none⟩) ll lc, .slice (some ⟨q f, 0, none⟩) 1 1, .string (key f)] 41)) = wA at e0 e1 e2 a1 a2 aq ar HB ⊢
                        clear hwA g0 g1 g2 ld
                        have i0 : (0 : Int) ≤ (f : Int) := Int.natCast_nonneg _
                        have i1 : (f : Int) < (k5 : Int) := by omega
                        have z0 := World.block_lt_of_cell? wA _ e0
                        have z1 := World.block_lt_of_cell? wA _ a1
                        dsimp only at z0 z1
                        go_region_held3 (fun w' => w'.cell? ⟨wr.heap.size, 0, none⟩ = some (.slice (some ⟨la, 0, none⟩) ll lc) ∧ w'.cell? ⟨wr.heap.size, 1, none⟩ = some (.slice (some ⟨q f, 0, none⟩) 1 1) ∧ w'.cell? ⟨wr.heap.size, 2, none⟩ = some (.string (key f)) ∧ w'.cell? ⟨b1, o1 + f, none⟩ = some (.string (key f)))
                          (first
                            | go_keep
                            | (go_split_ands
                               refine ⟨?_, ?_, ?_, ?_⟩
                               · (rw [hbB.cell (p := ⟨wr.heap.size, 0, none⟩) (by simpa using z0)]; simpa using e0)
                               · (rw [hbB.cell (p := ⟨wr.heap.size, 1, none⟩) (by simpa using z0)]; simpa using e1)
                               · (rw [hbB.cell (p := ⟨wr.heap.size, 2, none⟩) (by simpa using z0)]; simpa using e2)
                               · (rw [hbB.cell (p := ⟨b1, o1 + f, none⟩) (by simpa using z1)]; simpa using a1)))
                          ((go_at_call 15; refine (groupKey_any _ _ _ _ ⟨_, _, _, rfl⟩ ⟨_, _, _, rfl⟩).mono ?_; rintro e wB ⟨rfl, hbB⟩))
                        rename_i hSS
                        clear hSS
                        have hbB' : Below wA.heap.size wA wB := ⟨hbB.os, hbB.tape, hbB.output, hbB.size, hbB.block⟩
                        clear hbB
                        have f0 := cell_later hbB' e0
                        have f1 := cell_later hbB' e1
                        have f2 := cell_later hbB' e2
                        have hb2' := cell_later hbB' a2
                        have hq' := cell_later hbB' aq
                        have hr' := cell_later hbB' ar
                        have HB2 := hid (HB.out.trans (hbB'.mono HB.out.size))
                        clear HB hbB' e0 e1 e2 a1 a2 aq ar z0 z1
                        go_wp2_with fail
                        refine (groupPatterns_any _ _ _ _ _ _ _ _).mono ?_
                        rintro e wC ⟨rfl, hbC⟩
                        have e0 := cell_later hbC f0
                        have e1 := cell_later hbC f1
                        have e2 := cell_later hbC f2
                        have a2 := cell_later hbC hb2'
                        have aq := cell_later hbC hq'
                        have ar := cell_later hbC hr'
                        have HB := hid (HB2.out.trans (hbC.mono HB2.out.size))
                        clear HB2 hbC f0 f1 f2 hb2' hq' hr'
                        go_wp2_with fail
                        go_quiet ((go_at_call 17; exact Calls.quiet_of_same (segID_any _ _ _ (by simpa using ar))))
                        go_wp2_with fail
                        refine (groupLinesOf_any _ _ _ _ _ _ _ _).mono ?_
                        rintro e wD ⟨rfl, hbD⟩
                        have HD := hid (show Below w9.heap.size w9 wD from HB.out.trans ⟨hbD.os, hbD.tape, hbD.output, hbD.size, fun b hb => hbD.block b (Nat.lt_of_lt_of_le hb HB.out.size)⟩)
                        clear HB hbD e0 e1 e2 a2 aq ar
                        go_wp2_with fail
                        have HM7 := hid (HM9.out.below HD.out)
                        have HG7 := hid ((HF9.out.below HD.out).lns f hmem)
                        go_loop [22, 23] (fun p k => ∃ j : Nat, f ≤ j ∧ j ≤ k5 ∧ k = .int .i64 j ∧ p = .int .i64 ((Ln c key f j).length : Nat)) (fun _ k => k5 - (intOf k).toNat)
                        case atStart => exact ⟨f, Nat.le_refl _, hf, rfl, by rw [Ln_self (Nat.le_refl _)]; rfl⟩
                        case round =>
                          obtain ⟨j, hfj, hj, rfl, rfl⟩ := hrel
                          obtain ⟨pp, hpp⟩ : ∃ pp, pp = (Ln c key f j).length := ⟨_, rfl⟩
                          have HPP := hid hpp
                          rw [← hpp]
                          clear hpp
                          by_cases hlt7 : j < k5
                          · have ld := HM7.out.row.cell hlt7
                            by_cases hI : inG c key f j = true
                            · have eL : ldr c key j = (f : Int) := by
                                obtain ⟨h1, h2⟩ := inG_iff.1 hI
                                simp [ldr, h1, h2]
                              rw [eL] at ld
                              have hat7 : (Ln c key f k5)[pp]? = some j := by rw [HPP.out]; exact Ln_at hI hlt7
                              have hpl : pp < ll := by rw [HLL.out.2.2]; exact (List.getElem?_eq_some_iff.1 hat7).1
                              have gl7 : wD.cell? ⟨la, pp, none⟩ = some (.int .i64 (j : Int)) := by rw [HLL.out.1]; exact HG7.out.2 pp j hat7
                              have HN : Hid ((Ln c key f (j + 1)).length = pp + 1) := by rw [Ln_yes hI, HPP.out]; exact hid (by simp)
                              clear eL hI hat7
                              go_wp2
                              go_round
                              case rel => exact ⟨j + 1, by omega, by omega, by go_num, by rw [HN.out]; go_num⟩
                              case measure => simp [intOf]; omega
                            · have hI' : inG c key f j = false := by simpa using hI
                              have hne : (ldr c key j != (f : Int)) = true := by
                                by_cases hz : c j = 0
                                · simp [ldr, hz] <;> omega
                                · have : lead c key j ≠ f := fun e => hI (inG_iff.2 ⟨hz, e⟩)
                                  simp [ldr, hz] <;> omega
                              have HN : Hid ((Ln c key f (j + 1)).length = pp) := by rw [Ln_no hI', HPP.out]; exact hid rfl
                              clear hI hI'
                              go_wp2
                              go_round
                              case rel => exact ⟨j + 1, by omega, by omega, by go_num, by rw [HN.out]⟩
                              case measure => simp [intOf]; omega
                          · have epp : pp = ll := by rw [HPP.out, HLL.out.2.2, show j = k5 by omega]
                            subst epp
                            have HN : Hid ((Lf c key (f + 1)).length = gi + 1) := by rw [HGI.out, Lf_yes HIL.out]; exact hid (by simp)
                            go_wp2
                            go_roundw
                            case rel => exact ⟨f + 1, by omega, by go_num, by rw [HN.out]; go_num, HD.out⟩
                            case measure => simp [intOf]; omega
                      · have hL' : isL c key f = false := by simpa using hL
                        have hne : (ldr c key f != (f : Int)) = true := by
                          by_cases hz : c f = 0
                          · simp [ldr, hz] <;> omega
                          · have : lead c key f ≠ f := fun e => hL (isL_iff.2 ⟨hz, e⟩)
                            simp [ldr, hz] <;> omega
                        have HN : Hid ((Lf c key (f + 1)).length = gi) := by rw [HGI.out, Lf_no hL']; exact hid rfl
                        have HB := hid hb9
                        clear hL hL' hM hG hb9
                        go_wp2
                        go_roundw
                        case rel => exact ⟨f + 1, by omega, by go_num, by rw [HN.out], HB.out⟩
                        case measure => simp [intOf]; omega
                    · have hmm : gi = m := by rw [HGI.out, HMM.out, show f = k5 by omega]
                      subst hmm
                      have HB := hid (HM9.out.bel.trans (hb9.mono HM9.out.bel.size))
                      clear hM hG hb9
                      go_wp2
                      go_ret
                      exact ⟨by simp, HB.out⟩
end Go.Proofs.Qxb6616265a
