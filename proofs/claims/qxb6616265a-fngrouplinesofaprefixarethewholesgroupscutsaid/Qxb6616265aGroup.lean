/-
  groupLines, ZZgroupLines: walked.
-/
import Derived.Test.Qxb6616265aInv
import Derived.Deep.RegionHeld3
import Derived.Deep.AppendLies
import Derived.Deep.DrawnRows
namespace Go.Proofs.Qxb6616265a
open Go.RowKit Go.Maps
open Go.WideMaps (keyOf_string_mk)
attribute [local go_sem ↓] Go.wp_at_zero Go.wp_at_succ

theorem Try.info3 : (Try.prog.info? 3).map (fun i => (i.zero, i.size, i.bytes)) = some (some (.int .i64 0), 1, 8) := by kernel_rfl
theorem Try.info41 : (Try.prog.info? 41).map (fun i => (i.zero, i.size, i.bytes)) = some (some (.agg #[.slice none 0 0, .slice none 0 0, .string ⟨#[]⟩]), 3, 64) := by kernel_rfl

set_option maxHeartbeats 2000000 in
set_option maxRecDepth 100000 in
theorem groupLines_any (W : World) (a : Option Addr) (b len cap : Nat) (c : Nat → Nat) (key : Nat → ByteArray) (p q : Nat → Nat) (hlen : len ≤ 65536) (ha : len = 0 ∨ a = some ⟨b, 0, none⟩) (hlc : len ≤ cap)
    (hl : ∀ j, j < len → LineAt W b j (p j) (q j) (c j) (key j)) :
    Calls Try.prog 22 #[.slice a len cap] W fun e w' => ∃ sa sc, e = .returned (.slice sa (Lf c key len).length sc) ∧ GI W c key q len (.slice sa (Lf c key len).length sc) w' := by
  have hmm := @run_makeMap Try.prog
  obtain ⟨i3, hi3, hz30, hz31, hz32⟩ := info_parts Try.info3
  obtain ⟨i41, hi41, hz410, hz411, hz412⟩ := info_parts Try.info41
  go_enter Try.func22, Try.ntmps22
  go_wp2
  clear hmm
  go_loopw [3, 12] (fun gv i wr => ∃ (k : Nat) (sa : Option Addr) (sc : Nat), k ≤ len ∧ i = .int .i64 k ∧ gv = .slice sa (Lf c key k).length sc ∧ GI W c key q k gv wr) (fun _ i _ => len - (intOf i).toNat)
  case atStart =>
    refine ⟨0, none, 0, by omega, rfl, rfl, ⟨(Below.refl _ _).alloc (Nat.le_refl _) _, by simp, ⟨.map [], World.ownsMap_made _ _ _ _, MapOK.zero _ _⟩, ⟨fun _ => .slice none 0 0, World.ownsRow_nil _ _ _ _, fun f hf => ?_, fun f f' hf => ?_⟩⟩⟩
    all_goals simp [Lf_zero] at hf
  case round =>
    obtain ⟨k, sa, sc, hk, rfl, rfl, hI⟩ := hrel
    by_cases hlt : k < len
    · obtain h0 | rfl := ha
      · omega
      obtain ⟨⟨s0, x0⟩, x1, x2, ⟨ga, gc, y0⟩, y1, y2, hbl, hpl, hks⟩ := (hl k hlt).below hI.bel (Nat.le_refl _)
      obtain ⟨m, hm⟩ : ∃ m, m = (Lf c key k).length := ⟨_, rfl⟩
      have hmk : m ≤ k := by rw [hm]; exact Lf_len k
      have HM := hid hm
      have HZ := hid hI.sz
      rw [← hm] at hI ⊢
      clear hm
      by_cases hc0 : c k = 0
      · rw [hc0] at y0
        have HN := hid (hI.skip hc0 (.cells #[.string s0, .pointer none, .pointer (some ⟨p k, 0, none⟩)] 35))
        have HL : Hid ((Lf c key (k + 1)).length = m) := by rw [HM.out, Lf_no (by simp [isL, hc0])]; exact hid rfl
        clear hI hl hc0
        go_wp2
        go_roundw
        case rel => exact ⟨k + 1, sa, sc, by omega, by go_num, by rw [HL.out], HN.out⟩
        case measure => simp [intOf]; omega
      · have hcb : ((c k : Int) == 0) = false := by simpa using hc0
        by_cases hx : ∃ g f : Nat, (Lf c key k)[g]? = some f ∧ key f = key k
        · obtain ⟨g, f, hg, hf⟩ := hx
          obtain ⟨D, hD, hM⟩ := hI.map
          have hlook := look_yes (hD.alloc (.cells #[.string s0, .pointer none, .pointer (some ⟨p k, 0, none⟩)] 35)) hM hks hg hf
          obtain ⟨gb, la, ln, lc, xs, hsa, hgm, hcell, hrow, hlnk, hgbl, hback⟩ := hI.old HM.out hc0 hg hf
          have HB := hid hback
          have HL : Hid ((Lf c key (k + 1)).length = m) := by
            rw [HM.out, Lf_no (by
              cases e : isL c key k with
              | false => rfl
              | true =>
                have h1 := (isL_iff.1 e).2
                have h2 := lead_of_key hc0 (isL_iff.2 (mem_Lf.1 (List.mem_of_getElem? hg)).2) hf
                have h3 := (mem_Lf.1 (List.mem_of_getElem? hg)).1
                omega)]
            exact hid rfl
          subst hsa
          clear hback hg hf hM hD hI hl hc0
          have c6a : (wr.alloc (.cells #[.string s0, .pointer none, .pointer (some ⟨p k, 0, none⟩)] 35)).cell? ⟨gb, g * 3, none⟩ = some (.slice (some ⟨la, 0, none⟩) ln lc) := by rw [World.cell?_alloc_lt _ _ _ hgbl]; exact hcell
          go_wp2_with (at_builtin; refine wpList_append_own_at _ rfl _ _ 28 rfl (W.heap.size + 1) 3 i3 (.int .i64 0) 1 8 Try.underlying28 hi3 hz30 hz31 hz32 rfl (by decide) (.slice (some ⟨la, 0, none⟩) ln lc) ln xs rfl ((hrow.alloc _).alloc _) ⟨wr.heap.size + 1, 0, none⟩ 1 1 [.int .i64 k] rfl rfl ?hnews (ints_oneCell .i64 [(k : Int)]) (by unfold maxLen; omega) (by omega) ?hbase ?hgo)
          case hnews =>
            have h := cell_one_new (wr.alloc (.cells #[.string s0, .pointer none, .pointer (some ⟨p k, 0, none⟩)] 35)) (.int .i64 k) 3
            simpa using h
          case hbase => have := HZ.out; simp; omega
          intro v' w3 hown' hgrow hnil hat
          clear hnil
          obtain ⟨sa', sc', hv'⟩ := slice_of_row hown'
          rw [hv'] at hown' hat ⊢
          clear hv'
          obtain ⟨c3, f3, hN⟩ := HB.out _ _ _ _ hown' hgrow (by simpa [Value.ownBlock] using hat)
          have HN := hid hN
          clear hN HB hown' hgrow hat hrow hcell c6a
          go_wp2
          go_roundw
          case rel => exact ⟨k + 1, _, sc, by omega, by go_num, by rw [HL.out], HN.out⟩
          case measure => simp [intOf]; omega
        · obtain ⟨D, hD, hM⟩ := hI.map
          have hlook := look_no (hD.alloc (.cells #[.string s0, .pointer none, .pointer (some ⟨p k, 0, none⟩)] 35)) hM hks (fun f hf he => by
            obtain ⟨g, hg⟩ := List.getElem?_of_mem hf
            exact hx ⟨g, f, hg, he⟩)
          obtain ⟨w2, hrun, hD2, hg2⟩ := (hD.alloc (.cells #[.string s0, .pointer none, .pointer (some ⟨p k, 0, none⟩)] 35)).update lawS Try.underlying59 (by unfold maxLen; omega) (key := .string (key k)) (val := .int .i64 m) (keyOf_string_mk Try.underlying9 hks) (plainElem_int Try.underlying3 (wf_nat (by omega)))
          obtain ⟨xs, hrow, hrl, hback⟩ := hI.new HM.out hc0 hx hD hM _ w2 hg2 hD2
          have HB := hid hback
          have HL : Hid ((Lf c key (k + 1)).length = m + 1) := by rw [HM.out, Lf_yes (isL_new hc0 hx)]; exact hid (by simp)
          have hBr : W.heap.size < wr.heap.size := hD.lt
          have hz2 := hg2.size
          simp only [World.size_alloc] at hz2
          have p2 : p k ≠ W.heap.size := fun e => by
            have := (hl k hlt).pl
            omega
          have z0 : w2.cell? ⟨wr.heap.size, 2, none⟩ = some (.pointer (some ⟨p k, 0, none⟩)) := by
            refine hg2.cell (a := ⟨wr.heap.size, 2, none⟩) ?_ (by intro e; have := Option.some.inj e; dsimp only at this; omega)
            rw [World.cell?_alloc_at _ _ _ _ rfl]; rfl
          have z1 : w2.cell? ⟨p k, 1, none⟩ = some (.slice (some ⟨q k, 0, none⟩) 1 1) := by
            refine hg2.cell (a := ⟨p k, 1, none⟩) ?_ (by intro e; exact p2 (Option.some.inj e))
            rw [World.cell?_alloc_lt _ _ _ hpl]; exact y1
          have z2 : w2.cell? ⟨p k, 2, none⟩ = some (.string (key k)) := by
            refine hg2.cell (a := ⟨p k, 2, none⟩) ?_ (by intro e; exact p2 (Option.some.inj e))
            rw [World.cell?_alloc_lt _ _ _ hpl]; exact y2
          have hzr : wr.heap.size < w2.heap.size := by omega
          have hpr : p k < w2.heap.size := by omega
          have r0 : some wr.heap.size ≠ (Value.slice sa m sc).ownBlock := fun e => by
            have h1 := (hrl _ e.symm).2
            omega
          have r1 : some (p k) ≠ (Value.slice sa m sc).ownBlock := fun e => by
            have h1 := (hrl _ e.symm).1
            have h2 := (hl k hlt).pl
            omega
          have hb2 : W.heap.size + 1 ≤ w2.heap.size := by omega
          have hnews : ((w2.alloc (.cells #[.int .i64 k] 3)).alloc (.cells #[.slice (some ⟨w2.heap.size, 0, none⟩) 1 1, .slice (some ⟨q k, 0, none⟩) 1 1, .string (key k)] 41)).drew.heap[w2.heap.size + 1]? = some (.cells #[.slice (some ⟨w2.heap.size, 0, none⟩) 1 1, .slice (some ⟨q k, 0, none⟩) 1 1, .string (key k)] 41 (0, 0)) := by
            have h := heap_alloc_new (w2.alloc (.cells #[.int .i64 k] 3)) (.cells #[.slice (some ⟨w2.heap.size, 0, none⟩) 1 1, .slice (some ⟨q k, 0, none⟩) 1 1, .string (key k)] 41)
            rw [World.size_alloc] at h
            exact h
          have HNW := hid hnews
          have HRW := hid hrow
          have n0 := World.new_ne w2 _ z0
          have n1 := World.new_ne w2 _ z1
          have n2 := World.new_ne w2 _ z2
          clear hback hx hM hD hI hl hc0 hD2 hg2 hnews hrow hrl
          go_wp2_with fail
          go_region_held3 (fun w' => w'.cell? ⟨wr.heap.size, 2, none⟩ = some (.pointer (some ⟨p k, 0, none⟩)) ∧ w'.cell? ⟨p k, 1, none⟩ = some (.slice (some ⟨q k, 0, none⟩) 1 1) ∧ w'.cell? ⟨p k, 2, none⟩ = some (.string (key k)))
            (first
              | go_keep
              | (go_split_ands
                 refine ⟨?_, ?_, ?_⟩
                 · (rw [hgrow.cell_far _ (by simp; omega) r0]; assumption)
                 · (rw [hgrow.cell_far _ (by simp; omega) r1]; assumption)
                 · (rw [hgrow.cell_far _ (by simp; omega) r1]; assumption)))
            ((refine step_append_lies _ (by rfl) _ _ _ (by rfl) (W.heap.size + 1) 41 i41 _ 3 64 Try.underlying37 hi41 hz410 hz411 hz412 rfl (by omega) (.slice sa m sc) m xs (by rfl) (((HRW.out.alloc _).alloc _).drew)
                ⟨w2.heap.size + 1, 0, none⟩ 1 1 [.slice (some ⟨w2.heap.size, 0, none⟩) 1 1, .slice (some ⟨q k, 0, none⟩) 1 1, .string (key k)] (by rfl) (by rfl) (World.news_of_block HNW.out) (by simp [Value.oneCell'])
                (by omega) (by unfold maxLen; omega) (by omega) (by simp; omega) (w2.heap.size + 2) (by simp) ?_; intro gg gcap w4 hown4 hgrow hat hlt4))
          have HN := hid (HB.out _ _ _ _ hown4 hgrow)
          clear HB HNW HRW hown4 hgrow hat
          go_wp2
          go_roundw
          case rel => exact ⟨k + 1, _, gcap, by omega, by go_num, by rw [HL.out], HN.out⟩
          case measure => simp [intOf]; omega
    · go_wp2
      go_ret
      obtain rfl : k = len := by omega
      exact ⟨_, _, rfl, hI⟩

set_option maxHeartbeats 400000 in
theorem zzGroupLines_any (W : World) (a : Option Addr) (b len cap : Nat) (c : Nat → Nat) (key : Nat → ByteArray) (p q : Nat → Nat) (hlen : len ≤ 65536) (ha : len = 0 ∨ a = some ⟨b, 0, none⟩) (hlc : len ≤ cap)
    (hl : ∀ j, j < len → LineAt W b j (p j) (q j) (c j) (key j)) :
    Calls Try.prog 14 #[.slice a len cap] W fun e w' => ∃ sa sc, e = .returned (.slice sa (Lf c key len).length sc) ∧ GI W c key q len (.slice sa (Lf c key len).length sc) w' := by
  have H := hid (groupLines_any W a b len cap c key p q hlen ha hlc hl)
  clear ha hl
  go_enter Try.func14, Try.ntmps14
  go_wp2_with fail
  refine H.out.mono ?_
  rintro e w' ⟨sa, sc, rfl, hG⟩
  have HG := hid hG
  clear hG
  go_wp2
  go_ret
  exact ⟨sa, sc, rfl, HG.out⟩

end Go.Proofs.Qxb6616265a
