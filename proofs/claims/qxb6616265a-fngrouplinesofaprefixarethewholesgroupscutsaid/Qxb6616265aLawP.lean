/-
  FnGroupLinesOfAPrefixAreTheWholesGroupsCut, walked.
-/
import Derived.Test.Qxb6616265aGroup
import Derived.Test.Qxb6616265aSmall2
import Derived.Deep.QuietTactic
import Derived.BigQuiet
import Derived.Deep.RegionHeld3
import Derived.Deep.DrawnRows
import Derived.Deep.DeepCutAuto
namespace Go.Proofs.Qxb6616265a
open Go.RowKit Go.Maps Go.Deep
attribute [local go_sem ↓] Go.wp_at_zero Go.wp_at_succ

set_option maxHeartbeats 4000000 in
set_option maxRecDepth 100000 in
theorem lawP_any (cu : Int) (a0 a1 a2 : Option Addr) (n0 c0 n1 c1 n2 c2 : Nat) (c : Nat → Nat) (key : Nat → ByteArray) (tg : Nat → Int) (w : World) (h0 : Row0 w a0 n0 (fun k => .int .u8 (c k))) (h1 : Row0 w a1 n1 (fun k => .string (key k))) (h2 : Row0 w a2 n2 (fun k => .int .u32 (tg k)))
    (hc : ∀ k, k < n0 → c k ≤ 255) (hks : ∀ k, k < n1 → (key k).size ≤ maxLen) :
    Calls Try.prog 6 #[.slice a0 n0 c0, .slice a1 n1 c1, .slice a2 n2 c2, .int .i64 cu] w fun e w' => e = .returned (.bool true) ∧ Below w.heap.size w w' := by
  have H0 := hid h0
  have H1 := hid h1
  have H2 := hid h2
  have HC := hid hc
  have HK := hid hks
  clear h0 h1 h2 hc hks
  go_enter Try.func6, Try.ntmps6
  go_wp2_with fail
  refine (zzBytes2_any cu a0 a1 a2 n0 c0 n1 c1 n2 c2 key w H1.out).mono ?_
  rintro e w' ⟨rfl, rfl | ⟨rfl, b0, b1, b2⟩⟩
  · go_wp2
    go_ret
    exact ⟨rfl, Below.refl _ _⟩
  by_cases l0 : n0 ≤ 65536
  rotate_left
  · go_wp2
    go_ret
    exact ⟨rfl, Below.refl _ _⟩
  by_cases l1 : n1 ≤ 65536
  rotate_left
  · go_wp2
    go_ret
    exact ⟨rfl, Below.refl _ _⟩
  by_cases l2 : n2 ≤ 65536
  rotate_left
  · go_wp2
    go_ret
    exact ⟨rfl, Below.refl _ _⟩
  clear b0 b1 b2
  go_wp2
  go_loop [9, 10] (fun t i => ∃ k : Nat, k ≤ n1 ∧ i = .int .i64 k ∧ ∃ z : Int, 0 ≤ z ∧ z ≤ 1048576 ∧ t = .int .i64 z) (fun _ i => n1 - (intOf i).toNat)
  case atStart => exact ⟨0, by omega, rfl, _, by omega, by omega, rfl⟩
  case round =>
    obtain ⟨k, hk, rfl, z, hz0, hz1, rfl⟩ := hrel
    by_cases hlt : k < n1
    · rcases H1.out with hr | ⟨b, off, rfl, hb, hcc⟩
      · omega
      have hck : w'.cell? ⟨b, off + k, none⟩ = some (.string (key k)) := hcc k hlt
      generalize hs : key k = s at hck
      clear hs hcc
      by_cases h3 : s.size ≤ 1048576
      · by_cases h4 : z + (s.size + 16) ≤ 1048576
        · go_wp2
          go_round
          case rel => exact ⟨k + 1, by omega, by go_num, _, by omega, h4, rfl⟩
          case measure => simp [intOf]; omega
        · go_wp2
          go_ret
          exact ⟨rfl, Below.refl _ _⟩
      · go_wp2
        go_ret
        exact ⟨rfl, Below.refl _ _⟩
    · go_wp2
      go_loop [9, 11] (fun t i => ∃ k : Nat, k ≤ n0 ∧ i = .int .i64 k ∧ ∃ z : Int, 0 ≤ z ∧ z ≤ 1048576 ∧ t = .int .i64 z) (fun _ i => n0 - (intOf i).toNat)
      case atStart => exact ⟨0, by omega, rfl, _, hz0, hz1, rfl⟩
      case round =>
        clear hz0 hz1
        obtain ⟨k2, hk2, rfl, z2, hz0, hz1, rfl⟩ := hrel
        by_cases hlt2 : k2 < n0
        · rcases H0.out with hr | ⟨b, off, rfl, hb, hcc⟩
          · omega
          have hck : w'.cell? ⟨b, off + k2, none⟩ = some (.int .u8 (c k2)) := hcc k2 hlt2
          have hcb := HC.out k2 hlt2
          clear hcc
          by_cases h4 : z2 + 64 * (c k2 : Int) ≤ 1048576
          · go_wp2
            go_round
            case rel => exact ⟨k2 + 1, by omega, by go_num, _, by omega, h4, rfl⟩
            case measure => simp [intOf]; omega
          · go_wp2
            go_ret
            exact ⟨rfl, Below.refl _ _⟩
        · by_cases e1 : n0 = n1
          rotate_left
          · have e1' : ((n0 : Int) != n1) = true := by simp; omega
            go_wp2
            go_ret
            exact ⟨rfl, Below.refl _ _⟩
          by_cases e2 : n2 = n1
          rotate_left
          · have e2' : ((n2 : Int) != n1) = true := by simp; omega
            subst e1
            go_wp2
            go_ret
            exact ⟨rfl, Below.refl _ _⟩
          subst e1
          subst e2
          by_cases hcu0 : cu < 0
          · go_wp2
            go_ret
            exact ⟨rfl, Below.refl _ _⟩
          by_cases hcu1 : (n2 : Int) < cu
          · go_wp2
            go_ret
            exact ⟨rfl, Below.refl _ _⟩
          obtain ⟨cut, rfl⟩ : ∃ cut : Nat, cu = (cut : Int) := ⟨cu.toNat, by omega⟩
          have hcut : cut ≤ n2 := by omega
          clear hcu0 hcu1
          go_wp2
          go_loopw [13] (fun i wr => ∃ k : Nat, k ≤ n2 ∧ i = .int .i64 k ∧ Below w'.heap.size w' wr) (fun i _ => n2 - (intOf i).toNat)
          case atStart => exact ⟨0, by omega, rfl, Below.refl _ _⟩
          case round =>
            obtain ⟨k3, hk3, rfl, hM⟩ := hrel
            by_cases hlt3 : k3 < n2
            · rcases H0.out with hr | ⟨b0, o0, rfl, hb0, hc0⟩
              · omega
              rcases H1.out with hr | ⟨b1, o1, rfl, hb1, hc1⟩
              · omega
              rcases H2.out with hr | ⟨b2, o2, rfl, hb2, hc2⟩
              · omega
              have d0 : wr.cell? ⟨b0, o0 + k3, none⟩ = some (.int .u8 (c k3)) := by rw [hM.cell (p := ⟨b0, o0 + k3, none⟩) hb0]; exact hc0 k3 hlt3
              by_cases hz : c k3 = 0
              · rw [hz] at d0
                have HN := hid hM
                clear hM hz hc0 hc1 hc2
                go_wp2
                go_roundw
                case rel => exact ⟨k3 + 1, by omega, by go_num, HN.out⟩
                case measure => simp [intOf]; omega
              · have hzb : ((c k3 : Int) == 0) = false := by simpa using hz
                have HM := hid hM
                have HZ := hid hz
                have HC0 := hid hc0
                have HC1 := hid hc1
                have HC2 := hid hc2
                clear hM hz hc0 hc1 hc2
                go_wp2
                go_loopw [14] (fun i wx => ∃ f : Nat, f ≤ k3 ∧ i = .int .i64 f ∧ Below w'.heap.size w' wx) (fun i _ => k3 - (intOf i).toNat)
                case atStart => exact ⟨0, by omega, rfl, HM.out⟩
                case round =>
                  clear HM d0
                  obtain ⟨f, hf, rfl, hM⟩ := hrel
                  have x0 : ∀ j, j ≤ k3 → wr.cell? ⟨b0, o0 + j, none⟩ = some (.int .u8 (c j)) := fun j hj => by rw [hM.cell (p := ⟨b0, o0 + j, none⟩) hb0]; exact HC0.out j (by omega)
                  have x1 : ∀ j, j ≤ k3 → wr.cell? ⟨b1, o1 + j, none⟩ = some (.string (key j)) := fun j hj => by rw [hM.cell (p := ⟨b1, o1 + j, none⟩) hb1]; exact HC1.out j (by omega)
                  have x2 : ∀ j, j ≤ k3 → wr.cell? ⟨b2, o2 + j, none⟩ = some (.int .u32 (tg j)) := fun j hj => by rw [hM.cell (p := ⟨b2, o2 + j, none⟩) hb2]; exact HC2.out j (by omega)
                  have y0 := x0 f hf
                  have y1 := x1 f hf
                  have y2 := x1 k3 (Nat.le_refl _)
                  have t0 := x2 f hf
                  have t1 := x2 k3 (Nat.le_refl _)
                  have HM := hid hM
                  clear x0 x1 x2 hM
                  by_cases hfk : f < k3
                  · have hd : decide ((f : Int) < (k3 : Int)) = true := by simpa using hfk
                    by_cases hzf : c f = 0
                    · rw [hzf] at y0
                      clear hzf
                      go_wp2_with fail
                      go_quiet (fail)
                      go_wp2
                      go_roundw
                      case rel => exact ⟨f + 1, by omega, by go_num, below_draws HM.out _⟩
                      case measure => simp [intOf]; omega
                    · have hzfb : ((c f : Int) == 0) = false := by simpa using hzf
                      by_cases hkk : key f = key k3
                      · have hkb : ((key f).toList == (key k3).toList) = true := by rw [hkk]; simp
                        clear hzf hkk
                        go_wp2_with fail
                        go_quiet (fail)
                        by_cases htt : tg f = tg k3
                        · rw [htt] at t0
                          clear htt
                          go_wp2
                          go_quiet (fail)
                          go_wp2
                          go_roundw
                          case rel => exact ⟨k3 + 1, by omega, by go_num, below_draws HM.out _⟩
                          case measure => simp [intOf]; omega
                        · have htb : (tg f != tg k3) = true := by simpa using htt
                          clear htt
                          go_wp2
                          go_quiet (fail)
                          go_wp2
                          go_ret
                          exact ⟨rfl, below_draws (below_draws HM.out _) _⟩
                      · have hkb : ((key f).toList == (key k3).toList) = false := by
                          rw [ByteArray.toList_eq, ByteArray.toList_eq]
                          simp
                          exact fun e => hkk (bytes_inj (by simpa using e))
                        clear hzf hkk
                        go_wp2_with fail
                        go_quiet (fail)
                        go_wp2
                        go_roundw
                        case rel => exact ⟨f + 1, by omega, by go_num, below_draws HM.out _⟩
                        case measure => simp [intOf]; omega
                  · obtain rfl : f = k3 := by omega
                    have hd : decide ((f : Int) < (f : Int)) = false := by simp
                    go_wp2_with fail
                    go_quiet (fail)
                    go_wp2
                    go_quiet (fail)
                    go_wp2
                    go_roundw
                    case rel => exact ⟨f + 1, by omega, by go_num, below_draws HM.out _⟩
                    case measure => simp [intOf]; omega
            · obtain rfl : k3 = n2 := by omega
              have HM := hid hM
              clear hM
              go_wp2
              go_loop [15, 16, 17] (fun a b i => ∃ k : Nat, k ≤ k3 ∧ i = .int .i64 k ∧ a = .int .i64 (wcount c k : Nat) ∧ b = .int .i64 (wcount c (min k cut) : Nat)) (fun _ _ i => k3 - (intOf i).toNat)
              case atStart => exact ⟨0, by omega, rfl, rfl, by simp [wcount_zero]⟩
              case round =>
                obtain ⟨k5, hk5, rfl, rfl, rfl⟩ := hrel
                obtain ⟨x, hx⟩ : ∃ x, x = wcount c k5 := ⟨_, rfl⟩
                obtain ⟨y, hy⟩ : ∃ y, y = wcount c (min k5 cut) := ⟨_, rfl⟩
                have hxk : x ≤ k5 := by rw [hx]; exact wcount_le k5
                have hyk : y ≤ k5 := by rw [hy]; exact Nat.le_trans (wcount_le _) (by omega)
                rw [← hx, ← hy]
                have HX := hid (And.intro hx hy)
                clear hx hy
                by_cases hlt5 : k5 < k3
                · rcases H0.out with hr | ⟨b0, o0, rfl, hb0, hc0⟩
                  · omega
                  have d0 : wr.cell? ⟨b0, o0 + k5, none⟩ = some (.int .u8 (c k5)) := by rw [HM.out.cell (p := ⟨b0, o0 + k5, none⟩) hb0]; exact hc0 k5 hlt5
                  clear hc0
                  by_cases hz : c k5 = 0
                  · rw [hz] at d0
                    have E1 : Hid (wcount c (k5 + 1) = x) := by rw [wcount_no hz]; exact HX.out.1.symm
                    have E2 : Hid (wcount c (min (k5 + 1) cut) = y) := by
                      rw [HX.out.2]
                      by_cases hkc : k5 < cut
                      · rw [show min (k5 + 1) cut = k5 + 1 by omega, show min k5 cut = k5 by omega]; exact wcount_no hz
                      · rw [show min (k5 + 1) cut = min k5 cut by omega]; exact hid rfl
                    clear hz
                    go_wp2
                    go_round
                    case rel => exact ⟨k5 + 1, by omega, by go_num, by rw [E1.out], by rw [E2.out]⟩
                    case measure => simp [intOf]; omega
                  · have hzb : ((c k5 : Int) != 0) = true := by simpa using hz
                    have E1 : Hid (wcount c (k5 + 1) = x + 1) := by rw [wcount_yes hz, HX.out.1]; exact hid rfl
                    by_cases hkc : k5 < cut
                    · have E2 : Hid (wcount c (min (k5 + 1) cut) = y + 1) := by
                        rw [HX.out.2, show min (k5 + 1) cut = k5 + 1 by omega, show min k5 cut = k5 by omega]; exact wcount_yes hz
                      clear hz
                      go_wp2
                      go_round
                      case rel => exact ⟨k5 + 1, by omega, by go_num, by rw [E1.out]; go_num, by rw [E2.out]; go_num⟩
                      case measure => simp [intOf]; omega
                    · have E2 : Hid (wcount c (min (k5 + 1) cut) = y) := by
                        rw [HX.out.2, show min (k5 + 1) cut = min k5 cut by omega]; exact hid rfl
                      clear hz
                      go_wp2
                      go_round
                      case rel => exact ⟨k5 + 1, by omega, by go_num, by rw [E1.out]; go_num, by rw [E2.out]⟩
                      case measure => simp [intOf]; omega
                · obtain rfl : k5 = k3 := by omega
                  have ey : y = wcount c cut := by rw [HX.out.2, show min k5 cut = cut by omega]
                  have HXY := hid (And.intro HX.out.1 ey)
                  clear HX ey
                  go_wp2_with fail
                  refine (noLines_any _).mono ?_
                  rintro e w1 ⟨rfl, rfl⟩
                  have HS := hid (show M5 w'.heap.size c key tg (fun _ => 0) (fun _ => 0) (fun _ => 0) 0 (.slice none 0 0) w1 from ⟨World.ownsRow_nil _ _ _ _, fun j hj => by omega⟩)
                  obtain ⟨i35, hi35, hz350, hz351, hz352⟩ := info_parts Try.info35
                  go_wp2_with fail
                  go_loopw [18, 19] (fun v i wr => ∃ (k : Nat) (sa : Option Addr) (sc : Nat) (p q r : Nat → Nat), k ≤ k5 ∧ i = .int .i64 k ∧ v = .slice sa k sc ∧ M5 w'.heap.size c key tg p q r k v wr ∧ Below w'.heap.size w' wr) (fun _ i _ => k5 - (intOf i).toNat)
                  case atStart => exact ⟨0, none, 0, _, _, _, by omega, rfl, rfl, HS.out, HM.out⟩
                  case round =>
                    clear HS HM
                    obtain ⟨k6, sa, sc, p, q, r, hk6, rfl, rfl, hS, hM⟩ := hrel
                    by_cases hlt6 : k6 < k5
                    · rcases H0.out with hr | ⟨b0, o0, rfl, hb0, hc0⟩
                      · omega
                      rcases H1.out with hr | ⟨b1, o1, rfl, hb1, hc1⟩
                      · omega
                      rcases H2.out with hr | ⟨b2, o2, rfl, hb2, hc2⟩
                      · omega
                      have d0 : wr.cell? ⟨b0, o0 + k6, none⟩ = some (.int .u8 (c k6)) := by rw [hM.cell (p := ⟨b0, o0 + k6, none⟩) hb0]; exact hc0 k6 hlt6
                      have d1 : wr.cell? ⟨b1, o1 + k6, none⟩ = some (.string (key k6)) := by rw [hM.cell (p := ⟨b1, o1 + k6, none⟩) hb1]; exact hc1 k6 hlt6
                      have d2 : wr.cell? ⟨b2, o2 + k6, none⟩ = some (.int .u32 (tg k6)) := by rw [hM.cell (p := ⟨b2, o2 + k6, none⟩) hb2]; exact hc2 k6 hlt6
                      have hcb := HC.out k6 hlt6
                      have hwr : IntKind.i64.wrap ((c k6 : Nat) : Int) = (c k6 : Int) := by rw [IntKind.wrap_i64]; omega
                      have hsz := hM.size
                      have i0 : (0 : Int) ≤ (k6 : Int) := Int.natCast_nonneg _
                      have i1 : (k6 : Int) < (k5 : Int) := by omega
                      have q0 : some b0 ≠ (Value.slice sa k6 sc).ownBlock := fun e => by have := (hS.ls.lt _ e.symm).1; omega
                      have q1 : some b1 ≠ (Value.slice sa k6 sc).ownBlock := fun e => by have := (hS.ls.lt _ e.symm).1; omega
                      have q2 : some b2 ≠ (Value.slice sa k6 sc).ownBlock := fun e => by have := (hS.ls.lt _ e.symm).1; omega
                      have HS := hid hS
                      have HM := hid hM
                      clear hS hM hc0 hc1 hc2
                      go_wp2_with fail
                      go_region_held3 (fun w' => w'.cell? ⟨b0, o0 + k6, none⟩ = some (.int .u8 (c k6)) ∧ w'.cell? ⟨b1, o1 + k6, none⟩ = some (.string (key k6)) ∧ w'.cell? ⟨b2, o2 + k6, none⟩ = some (.int .u32 (tg k6)))
                        (first
                          | go_keep
                          | (go_split_ands
                             refine ⟨?_, ?_, ?_⟩
                             · (rw [hb5.cell (p := ⟨b0, o0 + k6, none⟩) (by simp; omega)]; simpa using d0)
                             · (rw [hb5.cell (p := ⟨b1, o1 + k6, none⟩) (by simp; omega)]; simpa using d1)
                             · (rw [hb5.cell (p := ⟨b2, o2 + k6, none⟩) (by simp; omega)]; simpa using d2))
                          | (go_split_ands
                             refine ⟨?_, ?_, ?_⟩
                             · (rw [hgrow.cell_far _ (by simp; have := hb5.size; simp at this; omega) q0]; assumption)
                             · (rw [hgrow.cell_far _ (by simp; have := hb5.size; simp at this; omega) q1]; assumption)
                             · (rw [hgrow.cell_far _ (by simp; have := hb5.size; simp at this; omega) q2]; assumption)))
                        (first
                          | (go_at_call 13; (try rw [hwr]); refine (newLine_any _ _ _ _ hcb).mono ?_; rintro e w5 ⟨p5, q5, r5, rfl, hb5, hw5⟩)
                          | (have _hb5 := hb5; refine step_append_lies _ (by rfl) _ _ _ (by rfl) w'.heap.size 35 i35 _ 3 32 Try.underlying30 hi35 hz350 hz351 hz352 rfl (by omega) (.slice sa k6 sc) k6 (lsRow p k6) (by rfl) ((row_below (w := wr.drew) HS.out.ls hb5).alloc _)
                              ⟨w5.heap.size, 0, none⟩ 1 1 [.string ⟨#[]⟩, .pointer none, .pointer (some ⟨p5, 0, none⟩)] (by rfl) (by rfl) (World.news_of_block (heap_alloc_new w5 _)) (by simp [Value.oneCell'])
                              (by omega) (by unfold maxLen; omega) (by omega) (by have := hb5.size; simp at this ⊢; omega) (w5.heap.size + 1) (by simp) ?_; intro gg gcap w6 hown6 hgrow hat hlt6'))
                      have hb5' : Below wr.heap.size wr w5 := ⟨hb5.os, hb5.tape, hb5.output, hb5.size, hb5.block⟩
                      obtain ⟨p', q', r', hS'⟩ := HS.out.step (by omega) hb5' hw5 hown6 hgrow
                      have HS' := hid hS'
                      have HM' := hid (below_line HM.out hb5' hgrow (fun b e => (HS.out.ls.lt b e).1))
                      rename_i hSS
                      clear hSS hS' hb5' hb5 hw5 hown6 hgrow hat HS HM d0 d1 d2
                      go_wp2
                      go_roundw
                      case rel => exact ⟨k6 + 1, _, gcap, p', q', r', by omega, by go_num, rfl, HS'.out, HM'.out⟩
                      case measure => simp [intOf]; omega
                    · obtain rfl : k6 = k5 := by omega
                      obtain ⟨hsc, b, hsa, hlin⟩ := hS.call HK.out
                      have HG := hid (zzGroupLines_any wr sa b k6 sc c key p q (by omega) hsa hsc hlin)
                      have HS := hid hS
                      have HM := hid hM
                      have HLIN := hid hlin
                      have HSA := hid hsa
                      clear hS hM hlin hsa
                      go_wp2_with fail
                      refine HG.out.mono ?_
                      rintro e w9 ⟨ga, gc, rfl, hGI⟩
                      have HGI := hid hGI
                      clear hGI HG
                      go_wp2_with fail
                      refine (zzGroupLines_any w9 sa b cut sc c key p q (by omega) (HSA.out.elim (fun h => .inl (by omega)) .inr) (by omega) (fun j hj => (HLIN.out j (by omega)).below HGI.out.bel (Nat.le_refl _))).mono ?_
                      rintro e w10 ⟨pa, pc, rfl, hGP⟩
                      obtain ⟨_, hgc, lv, hGF⟩ := HGI.out.fin
                      obtain ⟨_, hpc, pv, hPF⟩ := hGP.fin
                      have HF := hid (hGF.below hGP.bel)
                      have HP := hid hPF
                      have HPT := hid (fun j (hj : j < k6) => And.intro (cell_later hGP.bel (cell_later HGI.out.bel (HS.out.pats hj).1)) (cell_later hGP.bel (cell_later HGI.out.bel (HS.out.pats hj).2)))
                      have hB9 : Below w'.heap.size w' w9 := HM.out.trans (HGI.out.bel.mono HM.out.size)
                      have HB10 := hid (hB9.trans (hGP.bel.mono hB9.size))
                      obtain ⟨m, hm⟩ : ∃ m, m = (Lf c key k6).length := ⟨_, rfl⟩
                      obtain ⟨mp, hmp⟩ : ∃ mp, mp = (Lf c key cut).length := ⟨_, rfl⟩
                      have hmk : m ≤ k6 := by rw [hm]; exact Lf_len k6
                      have hmpk : mp ≤ k6 := by rw [hmp]; exact Nat.le_trans (Lf_len cut) hcut
                      have hmpm : mp ≤ m := by rw [hm, hmp]; exact Lf_len_mono hcut
                      have HMM := hid (And.intro hm hmp)
                      rw [← hm] at hgc
                      rw [← hmp] at hpc
                      rw [← hm, ← hmp]
                      clear hm hmp hGF hPF hGP HGI HLIN HSA HS HM hB9
                      go_wp2_with fail
                      go_loopw [22, 23] (fun t i wr => ∃ g : Nat, g ≤ m ∧ i = .int .i64 g ∧ t = .int .i64 (gsum c key k6 g : Nat) ∧ Below w10.heap.size w10 wr) (fun _ i _ => m - (intOf i).toNat)
                      case atStart => exact ⟨0, by omega, rfl, rfl, Below.refl _ _⟩
                      case round =>
                        obtain ⟨g, hg, rfl, rfl, hb7⟩ := hrel
                        obtain ⟨s, hs⟩ : ∃ s, s = gsum c key k6 g := ⟨_, rfl⟩
                        have hsk : s ≤ k6 := by rw [hs]; exact Nat.le_trans gsum_le (wcount_le _)
                        have HSS := hid hs
                        rw [← hs]
                        clear hs
                        by_cases hlt7 : g < m
                        · obtain ⟨f, hat⟩ : ∃ f, (Lf c key k6)[g]? = some f := ⟨_, List.getElem?_eq_getElem (by rw [← HMM.out.1]; exact hlt7)⟩
                          obtain ⟨gb, hga, g0, g1, g2⟩ := (HF.out.below hb7).grp g f hat
                          subst hga
                          obtain ⟨ll, hll⟩ : ∃ ll, ll = (Ln c key f k6).length := ⟨_, rfl⟩
                          have hllk : ll ≤ k6 := by rw [hll]; exact Ln_len f k6
                          rw [← hll] at g0
                          have HN : Hid (gsum c key k6 (g + 1) = s + ll) := by rw [gsum_succ hat, HSS.out, hll]; exact hid rfl
                          have HB := hid hb7
                          clear hll hat hb7
                          go_wp2_with fail
                          refine (groupLinesOf_any _ _ _ _ _ _ _ _).mono ?_
                          rintro e wX ⟨rfl, hbX⟩
                          have HX := hid (HB.out.trans (hbX.mono HB.out.size))
                          clear hbX
                          go_wp2
                          go_roundw
                          case rel => exact ⟨g + 1, by omega, by go_num, by rw [HN.out]; go_num, HX.out⟩
                          case measure => simp [intOf]; omega
                        · have es : s = x := by rw [HSS.out, HXY.out.1, show g = (Lf c key k6).length by rw [← HMM.out.1]; omega]; exact gsum_end k6
                          have HB7 := hid hb7
                          subst es
                          clear hb7 HSS
                          go_wp2_with fail
                          go_loopw [24, 25] (fun t i wr => ∃ g : Nat, g ≤ mp ∧ i = .int .i64 g ∧ t = .int .i64 (gsum c key cut g : Nat) ∧ Below w10.heap.size w10 wr) (fun _ i _ => mp - (intOf i).toNat)
                          case atStart => exact ⟨0, by omega, rfl, rfl, HB7.out⟩
                          case round =>
                            clear HB7
                            obtain ⟨g8, hg8, rfl, rfl, hb8⟩ := hrel
                            obtain ⟨s8, hs⟩ : ∃ s, s = gsum c key cut g8 := ⟨_, rfl⟩
                            have hsk8 : s8 ≤ k6 := by rw [hs]; exact Nat.le_trans gsum_le (Nat.le_trans (wcount_le _) hcut)
                            have HSS := hid hs
                            rw [← hs]
                            clear hs
                            by_cases hlt8 : g8 < mp
                            · obtain ⟨f, hat⟩ : ∃ f, (Lf c key cut)[g8]? = some f := ⟨_, List.getElem?_eq_getElem (by rw [← HMM.out.2]; exact hlt8)⟩
                              obtain ⟨gb, hga, g0, g1, g2⟩ := (HP.out.below hb8).grp g8 f hat
                              subst hga
                              obtain ⟨ll, hll⟩ : ∃ ll, ll = (Ln c key f cut).length := ⟨_, rfl⟩
                              have hllk : ll ≤ k6 := by rw [hll]; exact Nat.le_trans (Ln_len f cut) hcut
                              rw [← hll] at g0
                              have HN : Hid (gsum c key cut (g8 + 1) = s8 + ll) := by rw [gsum_succ hat, HSS.out, hll]; exact hid rfl
                              have HB := hid hb8
                              clear hll hat hb8
                              go_wp2_with fail
                              refine (groupLinesOf_any _ _ _ _ _ _ _ _).mono ?_
                              rintro e wX ⟨rfl, hbX⟩
                              have HX := hid (HB.out.trans (hbX.mono HB.out.size))
                              clear hbX
                              go_wp2
                              go_roundw
                              case rel => exact ⟨g8 + 1, by omega, by go_num, by rw [HN.out]; go_num, HX.out⟩
                              case measure => simp [intOf]; omega
                            · have es : s8 = y := by rw [HSS.out, HXY.out.2, show g8 = (Lf c key cut).length by rw [← HMM.out.2]; omega]; exact gsum_end cut
                              have HB8 := hid hb8
                              subst es
                              clear hb8 HSS
                              go_wp2_with fail
                              go_loopw [26, 27] (fun pi i wr => ∃ g : Nat, g ≤ m ∧ i = .int .i64 g ∧ pi = .int .i64 (min g mp : Nat) ∧ Below w10.heap.size w10 wr) (fun _ i _ => m - (intOf i).toNat)
                              case atStart => exact ⟨0, by omega, rfl, by simp, HB8.out⟩
                              case round =>
                                clear HB8
                                obtain ⟨g9, hg9, rfl, rfl, hb9⟩ := hrel
                                obtain ⟨pi, hpi⟩ : ∃ pi, pi = min g9 mp := ⟨_, rfl⟩
                                have HPI := hid hpi
                                have hpim : pi ≤ m := by omega
                                rw [← hpi]
                                clear hpi
                                by_cases hlt9 : g9 < m
                                · obtain ⟨f, hat⟩ : ∃ f, (Lf c key k6)[g9]? = some f := ⟨_, List.getElem?_eq_getElem (by rw [← HMM.out.1]; exact hlt9)⟩
                                  have hmem : f ∈ Lf c key k6 := List.mem_of_getElem? hat
                                  have hfL : isL c key f = true := isL_iff.2 (mem_Lf.1 hmem).2
                                  have hfk : f < k6 := (mem_Lf.1 hmem).1
                                  obtain ⟨gb, hga, g0, g1, g2⟩ := (HF.out.below hb9).grp g9 f hat
                                  subst hga
                                  obtain ⟨la, hla⟩ : ∃ la, la = (lv f).1 := ⟨_, rfl⟩
                                  obtain ⟨lc, hlc⟩ : ∃ lc, lc = (lv f).2 := ⟨_, rfl⟩
                                  obtain ⟨ll, hll⟩ : ∃ ll, ll = (Ln c key f k6).length := ⟨_, rfl⟩
                                  obtain ⟨lp, hlp⟩ : ∃ lp, lp = (Ln c key f cut).length := ⟨_, rfl⟩
                                  have hllk : ll ≤ k6 := by rw [hll]; exact Ln_len f k6
                                  have hlls : ll ≤ lc := by rw [hll, hlc]; exact (HF.out.lns f hmem).1
                                  have hlpl : lp ≤ ll := by rw [hll, hlp]; exact Ln_len_mono hcut
                                  have hcutg := Lf_cut hcut hat
                                  rw [← HMM.out.2] at hcutg
                                  have hlpf : 0 < lp ↔ g9 < mp := by rw [hcutg.1, hlp]; exact Ln_pos hfL
                                  rw [← hla, ← hlc, ← hll] at g0
                                  have HLL := hid (And.intro hla (And.intro hlc (And.intro hll hlp)))
                                  have HCG := hid hcutg.2
                                  have HLF := hid hlpf
                                  have HAT := hid (And.intro hmem hfk)
                                  have hbA : Below wr.heap.size wr (wr.alloc (.cells #[.slice (some ⟨la, 0, none⟩) ll lc, .slice (some ⟨q f, 0, none⟩) 1 1, .string (key f)] 41)) := (Below.refl _ _).alloc (Nat.le_refl _) _
                                  have e0 : (wr.alloc (.cells #[.slice (some ⟨la, 0, none⟩) ll lc, .slice (some ⟨q f, 0, none⟩) 1 1, .string (key f)] 41)).cell? ⟨wr.heap.size, 0, none⟩ = some (.slice (some ⟨la, 0, none⟩) ll lc) := by rw [World.cell?_alloc_at _ _ _ _ rfl]; rfl
                                  have e1 : (wr.alloc (.cells #[.slice (some ⟨la, 0, none⟩) ll lc, .slice (some ⟨q f, 0, none⟩) 1 1, .string (key f)] 41)).cell? ⟨wr.heap.size, 1, none⟩ = some (.slice (some ⟨q f, 0, none⟩) 1 1) := by rw [World.cell?_alloc_at _ _ _ _ rfl]; rfl
                                  have e2 : (wr.alloc (.cells #[.slice (some ⟨la, 0, none⟩) ll lc, .slice (some ⟨q f, 0, none⟩) 1 1, .string (key f)] 41)).cell? ⟨wr.heap.size, 2, none⟩ = some (.string (key f)) := by rw [World.cell?_alloc_at _ _ _ _ rfl]; rfl
                                  have HB := hid (hb9.trans (hbA.mono hb9.size))
                                  clear hla hlc hll hlp hcutg hlpf hmem hat hfL hb9 hbA
                                  go_wp2_with fail
                                  refine (groupLinesOf_any _ _ _ _ _ _ _ _).mono ?_
                                  rintro e wB ⟨rfl, hbB⟩
                                  have e0 := cell_later hbB e0
                                  have e1 := cell_later hbB e1
                                  have e2 := cell_later hbB e2
                                  have HBB := hid (HB.out.trans (hbB.mono HB.out.size))
                                  clear hbB HB g0 g1 g2
                                  have HGL := hid ((HF.out.below HBB.out).lns f HAT.out.1)
                                  go_wp2_with fail
                                  go_loop [30, 31] (fun mm qq => ∃ j : Nat, j ≤ ll ∧ qq = .int .i64 j ∧ mm = .int .i64 (min j lp : Nat)) (fun _ qq => ll - (intOf qq).toNat)
                                  case atStart => exact ⟨0, by omega, rfl, by simp⟩
                                  case round =>
                                    obtain ⟨j, hj, rfl, rfl⟩ := hrel
                                    by_cases hltj : j < ll
                                    · obtain ⟨kk, hkk⟩ : ∃ kk, (Ln c key f k6)[j]? = some kk := ⟨_, List.getElem?_eq_getElem (by rw [← HLL.out.2.2.1]; exact hltj)⟩
                                      have gl : wB.cell? ⟨la, j, none⟩ = some (.int .i64 (kk : Int)) := by rw [HLL.out.1]; exact HGL.out.2 j kk hkk
                                      have hcj := (Ln_cut hcut hkk).1
                                      rw [← HLL.out.2.2.2] at hcj
                                      clear hkk
                                      by_cases hjl : j < lp
                                      · have hkc := hcj.1 hjl
                                        have em : min j lp = j := by omega
                                        rw [em]
                                        clear em hcj
                                        go_wp2
                                        go_round
                                        case rel => exact ⟨j + 1, by omega, by go_num, by rw [show min (j + 1) lp = j + 1 by omega]; go_num⟩
                                        case measure => simp [intOf]; omega
                                      · have hkc : ¬ kk < cut := fun h => hjl (hcj.2 h)
                                        have em : min j lp = lp := by omega
                                        rw [em]
                                        clear em hcj
                                        go_wp2
                                        go_round
                                        case rel => exact ⟨j + 1, by omega, by go_num, by rw [show min (j + 1) lp = lp by omega]⟩
                                        case measure => simp [intOf]; omega
                                    · have em : min j lp = lp := by omega
                                      rw [em]
                                      clear em
                                      by_cases hl0 : lp = 0
                                      · have hge : ¬ g9 < mp := fun h => by have := HLF.out.2 h; omega
                                        have HN : Hid (min (g9 + 1) mp = pi) := by rw [HPI.out]; exact (by omega : min (g9 + 1) mp = min g9 mp)
                                        subst hl0
                                        go_wp2
                                        go_roundw
                                        case rel => exact ⟨g9 + 1, by omega, by go_num, by rw [HN.out], HBB.out⟩
                                        case measure => simp [intOf]; omega
                                      · have hgm : g9 < mp := HLF.out.1 (by omega)
                                        have hpg : pi = g9 := by rw [HPI.out]; omega
                                        subst hpg
                                        have hl0' : ((lp : Int) == 0) = false := by simp; omega
                                        have hatp := HCG.out hgm
                                        obtain ⟨pb, hpa, p0, p1, p2⟩ := (HP.out.below HBB.out).grp pi f hatp
                                        subst hpa
                                        obtain ⟨lap, hlap⟩ : ∃ lap, lap = (pv f).1 := ⟨_, rfl⟩
                                        obtain ⟨lcp, hlcp⟩ : ∃ lcp, lcp = (pv f).2 := ⟨_, rfl⟩
                                        rw [← hlap, ← hlcp, ← HLL.out.2.2.2] at p0
                                        have hmemp : f ∈ Lf c key cut := List.mem_of_getElem? hatp
                                        have hlps : lp ≤ lcp := by rw [HLL.out.2.2.2, hlcp]; exact (HP.out.lns f hmemp).1
                                        have HLP := hid (And.intro hlap hmemp)
                                        obtain ⟨xq, xr⟩ := HPT.out f HAT.out.2
                                        have xq := cell_later HBB.out xq
                                        have xr := cell_later HBB.out xr
                                        have hbC : Below wB.heap.size wB (wB.alloc (.cells #[.slice (some ⟨lap, 0, none⟩) lp lcp, .slice (some ⟨q f, 0, none⟩) 1 1, .string (key f)] 41)) := (Below.refl _ _).alloc (Nat.le_refl _) _
                                        have h0 : (wB.alloc (.cells #[.slice (some ⟨lap, 0, none⟩) lp lcp, .slice (some ⟨q f, 0, none⟩) 1 1, .string (key f)] 41)).cell? ⟨wB.heap.size, 0, none⟩ = some (.slice (some ⟨lap, 0, none⟩) lp lcp) := by rw [World.cell?_alloc_at _ _ _ _ rfl]; rfl
                                        have h1 : (wB.alloc (.cells #[.slice (some ⟨lap, 0, none⟩) lp lcp, .slice (some ⟨q f, 0, none⟩) 1 1, .string (key f)] 41)).cell? ⟨wB.heap.size, 1, none⟩ = some (.slice (some ⟨q f, 0, none⟩) 1 1) := by rw [World.cell?_alloc_at _ _ _ _ rfl]; rfl
                                        have h2 : (wB.alloc (.cells #[.slice (some ⟨lap, 0, none⟩) lp lcp, .slice (some ⟨q f, 0, none⟩) 1 1, .string (key f)] 41)).cell? ⟨wB.heap.size, 2, none⟩ = some (.string (key f)) := by rw [World.cell?_alloc_at _ _ _ _ rfl]; rfl
                                        have e0 := cell_later hbC e0
                                        have e1 := cell_later hbC e1
                                        have e2 := cell_later hbC e2
                                        have aq := cell_later hbC xq
                                        have ar := cell_later hbC xr
                                        have HBC := hid (HBB.out.trans (hbC.mono HBB.out.size))
                                        clear hlap hlcp hatp hmemp xq xr hbC
                                        go_wp2_with fail
                                        generalize hwC : (wB.alloc (.cells #[.slice (some ⟨lap, 0, none⟩) lp lcp, .slice (some ⟨q f, 0, none⟩) 1 1, .string (key f)] 41)) = wC at e0 e1 e2 h0 h1 h2 aq ar HBC ⊢
                                        clear hwC p0 p1 p2
                                        go_region_held3 (fun w' => w'.cell? ⟨wr.heap.size, 0, none⟩ = some (.slice (some ⟨la, 0, none⟩) ll lc) ∧ w'.cell? ⟨wr.heap.size, 1, none⟩ = some (.slice (some ⟨q f, 0, none⟩) 1 1) ∧ w'.cell? ⟨wr.heap.size, 2, none⟩ = some (.string (key f)) ∧ w'.cell? ⟨wB.heap.size, 0, none⟩ = some (.slice (some ⟨lap, 0, none⟩) lp lcp) ∧ w'.cell? ⟨wB.heap.size, 1, none⟩ = some (.slice (some ⟨q f, 0, none⟩) 1 1) ∧ w'.cell? ⟨wB.heap.size, 2, none⟩ = some (.string (key f)))
                                          (first
                                            | go_keep
                                            | (go_split_ands
                                               exact ⟨cell_later hbK2 (cell_later hbK e0), cell_later hbK2 (cell_later hbK e1), cell_later hbK2 (cell_later hbK e2), cell_later hbK2 (cell_later hbK h0), cell_later hbK2 (cell_later hbK h1), cell_later hbK2 (cell_later hbK h2)⟩)
                                            | (go_split_ands
                                               exact ⟨cell_later hbK e0, cell_later hbK e1, cell_later hbK e2, cell_later hbK h0, cell_later hbK h1, cell_later hbK h2⟩))
                                          (first
                                            | (go_at_call 15; have _h := hbK; refine (groupKey_any _ _ _ _ ⟨_, _, _, rfl⟩ ⟨_, _, _, rfl⟩).mono ?_; rintro e wK2 ⟨rfl, hbK2⟩)
                                            | (go_at_call 15; refine (groupKey_any _ _ _ _ ⟨_, _, _, rfl⟩ ⟨_, _, _, rfl⟩).mono ?_; rintro e wK ⟨rfl, hbK⟩))
                                        rename_i hHeld
                                        clear hHeld
                                        have hbK' : Below wC.heap.size wC wK := ⟨hbK.os, hbK.tape, hbK.output, hbK.size, hbK.block⟩
                                        have hbD := hbK'.trans (hbK2.mono hbK'.size)
                                        clear hbK hbK2 hbK' _h
                                        have e0 := cell_later hbD e0
                                        have e1 := cell_later hbD e1
                                        have e2 := cell_later hbD e2
                                        have h0 := cell_later hbD h0
                                        have h1 := cell_later hbD h1
                                        have h2 := cell_later hbD h2
                                        have aq := cell_later hbD aq
                                        have ar := cell_later hbD ar
                                        have HBD := hid (HBC.out.trans (hbD.mono HBC.out.size))
                                        clear hbD HBC
                                        go_wp2_with fail
                                        refine (groupPatterns_any _ _ _ _ _ _ _ _).mono ?_
                                        rintro e wE ⟨rfl, hbE⟩
                                        have h0 := cell_later hbE h0
                                        have h1 := cell_later hbE h1
                                        have h2 := cell_later hbE h2
                                        have aq := cell_later hbE aq
                                        have ar := cell_later hbE ar
                                        have HBE := hid (HBD.out.trans (hbE.mono HBD.out.size))
                                        clear hbE HBD e0 e1 e2
                                        go_wp2_with fail
                                        refine (groupPatterns_any _ _ _ _ _ _ _ _).mono ?_
                                        rintro e wF ⟨rfl, hbF⟩
                                        have h0 := cell_later hbF h0
                                        have h1 := cell_later hbF h1
                                        have h2 := cell_later hbF h2
                                        have aq := cell_later hbF aq
                                        have ar := cell_later hbF ar
                                        have HBF := hid (HBE.out.trans (hbF.mono HBE.out.size))
                                        clear hbF HBE
                                        go_wp2_with fail
                                        go_quiet ((go_at_call 17; exact Calls.quiet_of_same (segID_any _ _ _ (by simpa using ar))))
                                        go_wp2_with fail
                                        refine (groupLinesOf_any _ _ _ _ _ _ _ _).mono ?_
                                        rintro e wG ⟨rfl, hbG⟩
                                        have HBG := hid (show Below w10.heap.size w10 wG from HBF.out.trans ⟨hbG.os, hbG.tape, hbG.output, hbG.size, fun b hb => hbG.block b (Nat.lt_of_lt_of_le hb HBF.out.size)⟩)
                                        clear HBF hbG h0 h1 h2 aq ar
                                        go_wp2_with fail
                                        go_loopw [36, 37] (fun rr qq wr => ∃ j : Nat, j ≤ ll ∧ qq = .int .i64 j ∧ rr = .int .i64 (min j lp : Nat) ∧ Below w10.heap.size w10 wr) (fun _ qq _ => ll - (intOf qq).toNat)
                                        case atStart => exact ⟨0, by omega, rfl, by simp, HBG.out⟩
                                        case round =>
                                          clear HBG
                                          obtain ⟨j2, hj2, rfl, rfl, hb11⟩ := hrel
                                          by_cases hltj2 : j2 < ll
                                          · obtain ⟨kk, hkk⟩ : ∃ kk, (Ln c key f k6)[j2]? = some kk := ⟨_, List.getElem?_eq_getElem (by rw [← HLL.out.2.2.1]; exact hltj2)⟩
                                            have gl : wr.cell? ⟨la, j2, none⟩ = some (.int .i64 (kk : Int)) := by rw [HLL.out.1]; exact ((HF.out.below hb11).lns f HAT.out.1).2 j2 kk hkk
                                            have hcj := Ln_cut hcut hkk
                                            rw [← HLL.out.2.2.2] at hcj
                                            have HB11 := hid hb11
                                            by_cases hjl : j2 < lp
                                            · have hkc := hcj.1.1 hjl
                                              have pl : wr.cell? ⟨lap, j2, none⟩ = some (.int .i64 (kk : Int)) := by rw [HLP.out.1]; exact ((HP.out.below hb11).lns f HLP.out.2).2 j2 kk (hcj.2 hjl)
                                              have em : min j2 lp = j2 := by omega
                                              rw [em]
                                              clear em hcj hkk hb11
                                              go_wp2_with fail
                                              go_quiet (fail)
                                              go_wp2
                                              go_roundw
                                              case rel => exact ⟨j2 + 1, by omega, by go_num, by rw [show min (j2 + 1) lp = j2 + 1 by omega]; go_num, below_draws HB11.out _⟩
                                              case measure => simp [intOf]; omega
                                            · have hkc : ¬ kk < cut := fun h => hjl (hcj.1.2 h)
                                              have em : min j2 lp = lp := by omega
                                              rw [em]
                                              clear em hcj hkk hb11
                                              go_wp2
                                              go_roundw
                                              case rel => exact ⟨j2 + 1, by omega, by go_num, by rw [show min (j2 + 1) lp = lp by omega], HB11.out⟩
                                              case measure => simp [intOf]; omega
                                          · have HN : Hid (min (pi + 1) mp = pi + 1) := (by omega : min (pi + 1) mp = pi + 1)
                                            have HB11 := hid hb11
                                            clear hb11
                                            go_wp2
                                            go_roundw
                                            case rel => exact ⟨pi + 1, by omega, by go_num, by rw [HN.out]; go_num, HB11.out⟩
                                            case measure => simp [intOf]; omega
                                · have HEND : Hid (pi = mp) := by rw [HPI.out]; exact (by omega : min g9 mp = mp)
                                  have HB := hid (HB10.out.trans (hb9.mono HB10.out.size))
                                  have epm : pi = mp := HEND.out
                                  subst epm
                                  clear hb9
                                  go_wp2
                                  go_ret
                                  exact ⟨by simp, HB.out⟩
end Go.Proofs.Qxb6616265a
