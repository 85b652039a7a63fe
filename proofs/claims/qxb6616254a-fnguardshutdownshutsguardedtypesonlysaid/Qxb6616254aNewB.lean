/-
  NewGuard and ZZnewGuard, walked.
-/
import Derived.Test.Qxb6616254aNewA
import Derived.Deep.RegionHeld3
import Derived.Deep.DrawnRows
namespace Go.Proofs.Qxb6616254a
open Go.RowKit Go.Maps
attribute [local go_sem ↓] Go.wp_at_zero Go.wp_at_succ

theorem put7_cell_far (w : World) (g k : Nat) (u l : Int) (b o : Nat) (h : b ≠ g) {v : Value} (hc : w.cell? ⟨b, o, none⟩ = some v) : (put7 w g k u l).cell? ⟨b, o, none⟩ = some v := grown_cell (put7_grown w g k u l) h hc

theorem slice_of_row {w : World} {base n : Nat} {e : TypeId} {v : Value} {xs : List Value} (h : w.ownsRow base e 1 v n xs) : ∃ sa sc, v = .slice sa n sc := by
  obtain ⟨_, ⟨rfl, rfl⟩ | ⟨g, cap, cur, rfl, _⟩⟩ := h
  · exact ⟨none, 0, rfl⟩
  · exact ⟨_, _, rfl⟩

theorem ng_start (sp iv ac nt hs : Int) (bm : Nat) (L : Nat → Bool) (U V : Nat → Int) (w : World) (o : Obj) :
    NG L U V ac nt bm w 0 (((w.alloc (.cells #[.int .u64 sp, .int .i64 iv, .int .i64 ac, .int .i64 nt, .map (some bm), .int .i64 hs] 53)).alloc o).alloc (.cells (gCells sp iv ac nt hs (w.heap.size + 1)) 70)).drew := by
  have e : ((w.alloc (.cells #[.int .u64 sp, .int .i64 iv, .int .i64 ac, .int .i64 nt, .map (some bm), .int .i64 hs] 53)).alloc o).heap.size = w.heap.size + 2 := by simp
  refine ⟨?_, ?_, ⟨.slice none 0 0, 0, [], ?_, ⟨by simp, .inl ⟨rfl, rfl⟩⟩, by omega⟩, ?_, by simp⟩
  · have h := grd_new ((w.alloc (.cells #[.int .u64 sp, .int .i64 iv, .int .i64 ac, .int .i64 nt, .map (some bm), .int .i64 hs] 53)).alloc o) sp iv ac nt hs (w.heap.size + 1)
    rw [e] at h
    exact h
  · rw [drew_cell, World.cell?_alloc_lt _ _ _ (by simp; omega), World.cell?_alloc_lt _ _ _ (by simp), World.cell?_alloc_at _ _ _ _ rfl]
    rfl
  · rw [drew_cell, World.cell?_alloc_at _ _ _ _ e.symm]
    rfl
  · exact ((((Below.refl _ _).alloc (Nat.le_refl _) _).alloc (by simp) _).alloc (by simp; omega) _).drew

set_option maxHeartbeats 2000000 in
theorem newGuard_any (sp iv ac nt hs : Int) (bm n0 : Nat) (D : DataW Unit) (L : Nat → Bool) (U V : Nat → Int) (w : World) (hm : w.ownsMap Try.prog 32 thElem bm n0 D) (hd : Dat L U V 4 D) :
    Calls Try.prog 19 #[.agg #[.int .u64 sp, .int .i64 iv, .int .i64 ac, .int .i64 nt, .map (some bm), .int .i64 hs], .nilFunc] w fun e w' => ∃ g, e = .returned (.pointer (some ⟨g, 0, none⟩)) ∧ w.heap.size ≤ g ∧ g < w'.heap.size ∧ Grd w' g (upF L U) (upF L V) (stF L U) false ac nt ∧ Below w.heap.size w w' := by
  have hbm := hm.lt
  have hst := ng_start sp iv ac nt hs bm L U V w
  obtain ⟨i0, hi, hz0, hz1, hz2⟩ := info_parts Try.info32
  have HST := (show Hid _ from hst)
  clear hst
  go_enter Try.func19, Try.ntmps19
  go_wp2
  go_region_held3 (fun w' => w'.cell? ⟨w.heap.size, 0, none⟩ = some (.int .u64 sp) ∧ w'.cell? ⟨w.heap.size, 1, none⟩ = some (.int .i64 iv) ∧ w'.cell? ⟨w.heap.size, 2, none⟩ = some (.int .i64 ac) ∧ w'.cell? ⟨w.heap.size, 3, none⟩ = some (.int .i64 nt) ∧ w'.cell? ⟨w.heap.size, 5, none⟩ = some (.int .i64 hs)) (go_keep)
    ((go_at_call 21; refine (meter_any _ _).mono ?_; rintro e w' ⟨rfl, o, rfl⟩))
  rename_i hS
  clear hS
  go_wp2
  go_loopw [25] (fun i wr => ∃ k : Nat, k ≤ 4 ∧ i = .int .i64 k ∧ NG L U V ac nt bm w k wr) (fun i _ => 4 - (intOf i).toNat)
  case atStart => exact ⟨0, by omega, rfl, HST.out o⟩
  case round =>
    clear HST
    obtain ⟨k, hk, rfl, hR⟩ := hrel
    by_cases hlt : k < 4
    · have hR' := hR
      obtain ⟨hG, hc4, ⟨v, n, xs, hc6, hrow, hn⟩, hbel, hsz⟩ := hR
      have hm' := ownsMap_below hm hbel hbm
      by_cases hL : L k = true
      · have hlook := look_yes hm' hd hlt hL
        have HR := (show Hid _ from hR')
        have HL := (show Hid _ from hL)
        clear hR' hL
        obtain ⟨sa, sc, hv⟩ := slice_of_row hrow
        rw [hv] at hrow hc6
        clear hv
        have c6a : (wr.alloc (.cells #[.int .i64 (U k), .int .i64 (V k)] 36)).cell? ⟨w.heap.size + 1 + 1, 6, none⟩ = some (.slice sa n sc) := by rw [World.cell?_alloc_lt _ _ _ (by simp; omega)]; exact hc6
        go_wp2_with (at_builtin; refine wpList_append_own _ rfl _ _ 58 rfl (w.heap.size + 3) 32 i0 (.int .i64 0) 1 8 Try.underlying58 hi hz0 hz1 hz2 rfl (by decide) (.slice sa n sc) n xs rfl ((hrow.alloc _).alloc _) ⟨wr.heap.size + 1, 0, none⟩ 1 1 [.int .i64 k] rfl rfl ?hnews (ints_oneCell .i64 [(k : Int)]) (by unfold maxLen; omega) (by omega) (by simp; omega) ?hgo)
        case hnews =>
          have h := cell_one_new (wr.alloc (.cells #[.int .i64 (U k), .int .i64 (V k)] 36)) (.int .i64 k) 32
          simpa using h
        intro v' w1 hown' hgrow hnil
        clear hnil
        obtain ⟨sa', sc', hv'⟩ := slice_of_row hown'
        rw [hv'] at hown' ⊢
        clear hv'
        obtain ⟨⟨x6, y6⟩, f6, hT⟩ := NG.tl_yes _ HR.out hn hrow hgrow hown'
        clear HR hrow hgrow hown' c6a hc6
        go_wp2
        generalize (w1.setCell ⟨w.heap.size + 1 + 1, 6, none⟩ (.slice sa' (n + 1) sc')) = wx at hT ⊢
        have t0 := hT.t0
        have t1 := hT.t1
        have hGx := hT.G
        have g0 := hGx.up k hlt
        have g1 := hGx.lo k hlt
        have g2 := hGx.st k hlt
        have g3 := hGx.lv k hlt
        have g4 := hGx.tot k hlt
        have g5 := hGx.sto k hlt
        have g6 := hGx.hi k hlt
        have gf := hGx.fr
        go_region
        generalize hwy : (((((((wx.setCell ⟨w.heap.size + 1 + 1, 7 + k * 7, none⟩ (.int .i64 (U k))).setCell ⟨w.heap.size + 1 + 1, 7 + k * 7 + 1, none⟩ (.int .i64 (V k))).setCell ⟨w.heap.size + 1 + 1, 7 + k * 7 + 2, none⟩ (.int .i64 2)).setCell ⟨w.heap.size + 1 + 1, 7 + k * 7 + 3, none⟩ (.int .i64 0)).setCell ⟨w.heap.size + 1 + 1, 7 + k * 7 + 4, none⟩ (.int .u64 0)).setCell ⟨w.heap.size + 1 + 1, 7 + k * 7 + 5, none⟩ (.int .u64 0)).setCell ⟨w.heap.size + 1 + 1, 7 + k * 7 + 6, none⟩ (.slice none 0 0)).drew = wy
        have hpy : put7 wx (w.heap.size + 2) k (U k) (V k) = wy := hwy
        have hGy := hGx.put7 hlt (U k) (V k)
        have y0 := put7_cell_far wx (w.heap.size + 2) k (U k) (V k) wr.heap.size 0 (by omega) t0
        by_cases hu : U k = 10000
        · have HN := (show Hid _ from hT.one hlt (by simp [HL.out]) (by simp [HL.out]) hu)
          rw [hpy] at hGy y0 HN
          rw [hu] at y0
          have y2 := hGy.st k hlt
          have yf := hGy.fr
          clear hwy hpy hT t0 t1 hGx g0 g1 g2 g3 g4 g5 g6 gf hGy hu
          go_wp2
          go_roundw
          case rel => exact ⟨k + 1, by omega, by go_num, HN.out⟩
          case measure => simp [intOf]; omega
        · have HN := (show Hid _ from hT.two hlt (by simp [HL.out]) (by simp [HL.out]) hu)
          rw [hpy] at hGy y0 HN
          have hu' : (U k == 10000) = false := by simpa using hu
          clear hwy hpy hT t0 t1 hGx g0 g1 g2 g3 g4 g5 g6 gf hGy hu
          go_wp2
          go_roundw
          case rel => exact ⟨k + 1, by omega, by go_num, HN.out⟩
          case measure => simp [intOf]; omega
      · have hlook := look_no hm' hd hlt (by simpa using hL)
        have hT := hR'.tl_no
        have hL' : L k = false := by simpa using hL
        have HL : Hid (L k = false) := hL'
        clear hL'
        clear hR' hL
        go_wp2
        generalize (wr.alloc (.cells #[.int .i64 10000, .int .i64 10000] 36)) = wx at hT ⊢
        have t0 := hT.t0
        have t1 := hT.t1
        have hGx := hT.G
        have g0 := hGx.up k hlt
        have g1 := hGx.lo k hlt
        have g2 := hGx.st k hlt
        have g3 := hGx.lv k hlt
        have g4 := hGx.tot k hlt
        have g5 := hGx.sto k hlt
        have g6 := hGx.hi k hlt
        have gf := hGx.fr
        go_region
        generalize hwy : (((((((wx.setCell ⟨w.heap.size + 1 + 1, 7 + k * 7, none⟩ (.int .i64 10000)).setCell ⟨w.heap.size + 1 + 1, 7 + k * 7 + 1, none⟩ (.int .i64 10000)).setCell ⟨w.heap.size + 1 + 1, 7 + k * 7 + 2, none⟩ (.int .i64 2)).setCell ⟨w.heap.size + 1 + 1, 7 + k * 7 + 3, none⟩ (.int .i64 0)).setCell ⟨w.heap.size + 1 + 1, 7 + k * 7 + 4, none⟩ (.int .u64 0)).setCell ⟨w.heap.size + 1 + 1, 7 + k * 7 + 5, none⟩ (.int .u64 0)).setCell ⟨w.heap.size + 1 + 1, 7 + k * 7 + 6, none⟩ (.slice none 0 0)).drew = wy
        have hpy : put7 wx (w.heap.size + 2) k 10000 10000 = wy := hwy
        have hGy := hGx.put7 hlt 10000 10000
        have y0 := put7_cell_far wx (w.heap.size + 2) k 10000 10000 wr.heap.size 0 (by omega) t0
        have HN := (show Hid _ from hT.one hlt (by simp [HL.out]) (by simp [HL.out]) rfl)
        rw [hpy] at hGy y0 HN
        have y2 := hGy.st k hlt
        have yf := hGy.fr
        clear hwy hpy hT t0 t1 hGx g0 g1 g2 g3 g4 g5 g6 gf hGy
        go_wp2
        go_roundw
        case rel => exact ⟨k + 1, by omega, by go_num, HN.out⟩
        case measure => simp [intOf]; omega
    · obtain rfl : k = 4 := by omega
      obtain ⟨hG, hc4, ⟨v, n, xs, hc6, hrow, hn⟩, hbel, hsz⟩ := hR
      go_wp2
      go_ret
      exact ⟨_, rfl, by omega, by omega, hG.congr (fun j hj => by simp [upK, upF, hj]) (fun j hj => by simp [upK, upF, hj]) (fun j hj => by simp [stN, hj]), hbel⟩

set_option maxHeartbeats 400000 in
theorem zzNewGuard_any (sp iv ac nt hs : Int) (bm n0 : Nat) (D : DataW Unit) (L : Nat → Bool) (U V : Nat → Int) (w : World) (hm : w.ownsMap Try.prog 32 thElem bm n0 D) (hd : Dat L U V 4 D) :
    Calls Try.prog 5 #[.int .u64 sp, .int .i64 iv, .int .i64 ac, .int .i64 nt, .int .i64 hs, .map (some bm)] w fun e w' => ∃ g, e = .returned (.pointer (some ⟨g, 0, none⟩)) ∧ w.heap.size ≤ g ∧ g < w'.heap.size ∧ Grd w' g (upF L U) (upF L V) (stF L U) false ac nt ∧ Below w.heap.size w w' := by
  go_enter Try.func5, Try.ntmps5
  go_wp2_with (go_at_call 19; refine (newGuard_any sp iv ac nt hs bm n0 D L U V _ hm hd).mono ?_; rintro e w' ⟨g, rfl, h1, h2, h3, h4⟩)
  go_ret
  exact ⟨g, rfl, h1, h2, h3, h4⟩

end Go.Proofs.Qxb6616254a
