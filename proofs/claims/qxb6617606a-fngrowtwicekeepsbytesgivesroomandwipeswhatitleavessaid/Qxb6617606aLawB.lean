/-
  FnGrowTwiceKeepsBytesGivesRoomAndWipesWhatItLeaves, walked where the first Grow moves.
-/
import Derived.Test.Qxb6617606aMem
import Derived.Deep.QuietTactic
import Derived.BigQuiet
namespace Go.Proofs.Qxb6617606a
open Go.RowKit Go.Deep

set_option maxHeartbeats 4000000 in
set_option maxRecDepth 100000 in
theorem law_move (a0 : Option Addr) (n0 c0 l : Nat) (n : Nat) (m : Int) (z : Nat → Int) (w : World) (h0 : Row0 w a0 n0 z) (hn0 : n0 ≤ 1048576) (hl : l ≤ n0) (hn : n ≤ 65536) (hm : m ≤ 65536) (hst : n0 < l + n) :
    Calls Try.prog 3 #[.slice a0 n0 c0, .int .i64 l, .int .i64 n, .int .i64 m] w fun e w' => e = .returned (.bool true) ∧ Below w.heap.size w w' := by
  have H0 := hid h0
  clear h0
  obtain ⟨i5, hi5, hz0, hz1, hz2⟩ := info_parts Try.info5
  have hmk : ∀ (W : World), (Instr.makeSlice 22 (.int .i64 n0) (.int .i64 n0)).run Try.prog W = .ok (.slice (some ⟨W.heap.size, 0, none⟩) n0 n0) (W.alloc (.cells (madeCells #[.int .u8 0] n0) 5)) := fun W => by
    have h := run_make (P := Try.prog) W 22 5 i5 _ Try.underlying22 hi5 hz0 .i64 .i64 n0 n0 (by omega) (by omega) (by rw [hz2]; omega) (by omega)
    simpa [hz1, Value.cells] using h
  clear hi5 hz0 hz1 hz2
  have hM0 := hid (M1.start w n0 z)
  go_enter Try.func3, Try.ntmps3
  go_wp2_with fail
  refine (zzBytes_any a0 n0 c0 l n m w).mono ?_
  rintro e w' ⟨rfl, hw⟩
  obtain rfl := hw
  go_wp2
  clear hmk
  go_loopw [11] (fun i wr => ∃ k : Nat, k ≤ n0 ∧ i = .int .i64 k ∧ M1 w' n0 k z wr) (fun i _ => n0 - (intOf i).toNat)
  case atStart => exact ⟨0, by omega, rfl, hM0.out⟩
  case round =>
    clear hM0
    obtain ⟨k, hk, rfl, hM⟩ := hrel
    by_cases hlt : k < n0
    · obtain ⟨b, off, rfl, hb, cb⟩ := H0.out.later hM.bel hlt
      have cf := hM.row.cell hlt
      have ff := hM.row.frozen k
      have HN := hid hM.step
      clear hM
      go_wp2
      go_roundw
      case rel => exact ⟨k + 1, by omega, by go_num, HN.out⟩
      case measure => simp [intOf]; omega
    obtain rfl : n0 = k := by omega
    have HS := hid hM.done
    clear hM
    have el : ((l : Int) != l) = false := by simp
    go_wp2_with fail
    have hD1 : w'.heap.size < wr.heap.size := HS.out.r1.lt
    refine (grow_move _ _ _ n z _ (by omega) (by omega) (by omega) (by omega) HS.out.r1).mono ?_
    rintro e w2 ⟨rfl, hG⟩
    have HT := hid (S.ofA HS.out hG)
    clear HS hG
    have q1 : 64 ≤ newCap n0 l n ∧ 2 * n0 ≤ newCap n0 l n ∧ l + n ≤ newCap n0 l n ∧ newCap n0 l n ≤ 2 * n0 + n + 64 := by unfold newCap; omega
    generalize newCap n0 l n = C at HT q1 ⊢
    generalize wr.heap.size = G at HT hD1 ⊢
    have HS := HT
    clear HT
    have hB : w'.heap.size ≤ G := Nat.le_of_lt hD1
    have hne : G ≠ w'.heap.size := by omega
    obtain ⟨q1, q2, q3, q4⟩ := q1
    have e1 : decide ((C : Int) < 64) = false := decide_eq_false (by omega)
    have e2 : decide ((C : Int) < 2 * n0) = false := decide_eq_false (by omega)
    have e3 : decide ((C : Int) < l + n) = false := decide_eq_false (by omega)
    have e4 : decide (2 * (n0 : Int) + n + 64 < C) = false := decide_eq_false (by omega)
    have hmv : decide ((n0 : Int) - l < n) = true := decide_eq_true (by omega)
    go_wp2
    go_loopw [14] (fun i wr => ∃ k : Nat, k ≤ l ∧ i = .int .i64 k ∧ S w' G C (fun j => if j < l then .int .u8 (z j) else .int .u8 0) n0 (fun _ => .int .u8 0) wr) (fun i _ => l - (intOf i).toNat)
    case atStart => exact ⟨0, by omega, rfl, HS.out⟩
    case round =>
      clear HS
      obtain ⟨k14, hk14, rfl, hS⟩ := hrel
      by_cases hlt14 : k14 < l
      · obtain ⟨b, off, rfl, hb, cb⟩ := H0.out.later hS.bel (show k14 < n0 by omega)
        have c1 : wr.cell? ⟨G, k14, none⟩ = some (.int .u8 (z k14)) := (hS.r1.cell (by omega)).trans (by first | rfl | simp [*])
        have HS := hid hS
        clear hS
        have ez : (z k14 != z k14) = false := by simp
        go_wp2_with fail
        go_quiet (fail)
        go_wp2
        go_roundw
        case rel => exact ⟨k14 + 1, by omega, by go_num, HS.out.drewN _⟩
        case measure => simp [intOf]; omega
      have HS := hid hS
      clear hS
      go_wp2
      go_loopw [19] (fun i wr => ∃ k : Nat, k ≤ n0 ∧ i = .int .i64 k ∧ S w' G C (fun j => if j < l then .int .u8 (z j) else .int .u8 0) n0 (fun _ => .int .u8 0) wr) (fun i _ => n0 - (intOf i).toNat)
      case atStart => exact ⟨0, by omega, rfl, HS.out⟩
      case round =>
        clear HS
        obtain ⟨k19, hk19, rfl, hS⟩ := hrel
        by_cases hlt19 : k19 < n0
        · have c1 : wr.cell? ⟨w'.heap.size, k19, none⟩ = some (.int .u8 0) := (hS.rF.cell (by omega)).trans (by first | rfl | simp [*])
          have HS := hid hS
          clear hS
          have ez : ((0 : Int) != 0) = false := by simp
          go_wp2
          go_roundw
          case rel => exact ⟨k19 + 1, by omega, by go_num, HS.out⟩
          case measure => simp [intOf]; omega
        have HS := hid hS
        clear hS
        by_cases hl0 : 0 < l
        · obtain ⟨b, off, ha, hb, cb0⟩ := H0.out.later HS.out.bel (show 0 < n0 by omega)
          have cb : wr.cell? ⟨b, off, none⟩ = some (.int .u8 (z 0)) := by simpa using cb0
          clear cb0
          subst ha
          have c1 : wr.cell? ⟨w'.heap.size, 0, none⟩ = some (.int .u8 0) := (HS.out.rF.cell (by omega)).trans (by first | rfl | simp [*])
          have f1 := HS.out.rF.frozen 0
          go_wp2_with fail
          have HZ := hid (fun d : Nat => (S.back2 HS.out hne d : S w' G C (fun j => if j < l then .int .u8 (z j) else .int .u8 0) n0 (fun _ => .int .u8 0) (((wr.setCell ⟨w'.heap.size, 0, none⟩ (.int .u8 1)).drewN d).setCell ⟨w'.heap.size, 0, none⟩ (.int .u8 0))))
          obtain ⟨b', off', ha, hb', cb0⟩ := H0.out.later (HS.out.bel.setCell (Nat.le_refl _) (.int .u8 1) (p := ⟨w'.heap.size, 0, none⟩)) (show 0 < n0 by omega)
          obtain ⟨rfl, rfl⟩ : b = b' ∧ off = off' := by simpa using ha
          have cb2 : (wr.setCell ⟨w'.heap.size, 0, none⟩ (.int .u8 1)).cell? ⟨b, off, none⟩ = some (.int .u8 (z 0)) := by simpa using cb0
          clear cb0 ha hb'
          have c2 : (wr.setCell ⟨w'.heap.size, 0, none⟩ (.int .u8 1)).cell? ⟨w'.heap.size, 0, none⟩ = some (.int .u8 1) := ((HS.out.rF.set 0 (.int .u8 1)).cell (by omega)).trans (by simp)
          have f2 := (HS.out.rF.set 0 (.int .u8 1)).frozen 0
          have c3 : (wr.setCell ⟨w'.heap.size, 0, none⟩ (.int .u8 1)).cell? ⟨G, 0, none⟩ = some (.int .u8 (z 0)) := ((HS.out.r1.setOther hne (.int .u8 1)).cell (by omega)).trans (by first | rfl | simp [*])
          clear cb c1 f1 HS
          generalize wr.setCell ⟨w'.heap.size, 0, none⟩ (.int .u8 1) = wy at HZ cb2 c2 f2 c3 ⊢
          have exx : (z 0 == z 0) = true := by simp
          go_quiet (fail)
          go_wp2_with fail
          have HS := hid (HZ.out nq)
          generalize (wy.drewN nq).setCell ⟨w'.heap.size, 0, none⟩ (.int .u8 0) = wz at HS ⊢
          clear HZ cb2 c2 f2 exx c3
          by_cases hm2 : m ≤ (C : Int) - l
          · have eC : ((C : Int) != C) = false := by simp
            refine (grow_stay _ _ _ _ _ (by omega) (by omega) hm2).mono ?_
            rintro e w2 ⟨rfl, hw⟩
            obtain rfl := hw
            go_wp2
            go_loopw [23] (fun i wr => ∃ k : Nat, k ≤ l ∧ i = .int .i64 k ∧ S w' G C (fun j => if j < l then .int .u8 (z j) else .int .u8 0) n0 (fun _ => .int .u8 0) wr) (fun i _ => l - (intOf i).toNat)
            case atStart => exact ⟨0, by omega, rfl, HS.out⟩
            case round =>
              clear HS
              obtain ⟨k23, hk23, rfl, hS⟩ := hrel
              by_cases hlt23 : k23 < l
              · obtain ⟨b', off', ha, hb', cb⟩ := H0.out.later hS.bel (show k23 < n0 by omega)
                obtain ⟨rfl, rfl⟩ : b = b' ∧ off = off' := by simpa using ha
                clear ha
                have c1 : wr.cell? ⟨G, k23, none⟩ = some (.int .u8 (z k23)) := (hS.r1.cell (by omega)).trans (by first | rfl | simp [*])
                have HS := hid hS
                clear hS
                have ez : (z k23 != z k23) = false := by simp
                go_wp2_with fail
                go_quiet (fail)
                go_wp2
                go_roundw
                case rel => exact ⟨k23 + 1, by omega, by go_num, HS.out.drewN _⟩
                case measure => simp [intOf]; omega
              have HS := hid hS
              clear hS
              go_wp2
              go_loopw [24] (fun i wr => ∃ k : Nat, k ≤ l ∧ i = .int .i64 k ∧ S w' G C (fun j => if j < l then .int .u8 (z j) else .int .u8 0) n0 (fun _ => .int .u8 0) wr) (fun i _ => l - (intOf i).toNat)
              case atStart => exact ⟨0, by omega, rfl, HS.out⟩
              case round =>
                clear HS
                obtain ⟨k24, hk24, rfl, hS⟩ := hrel
                by_cases hlt24 : k24 < l
                · obtain ⟨b', off', ha, hb', cb⟩ := H0.out.later hS.bel (show k24 < n0 by omega)
                  obtain ⟨rfl, rfl⟩ : b = b' ∧ off = off' := by simpa using ha
                  clear ha
                  have c1 : wr.cell? ⟨G, k24, none⟩ = some (.int .u8 (z k24)) := (hS.r1.cell (by omega)).trans (by first | rfl | simp [*])
                  have HS := hid hS
                  clear hS
                  have ez : (z k24 != z k24) = false := by simp
                  go_wp2_with fail
                  go_quiet (fail)
                  go_wp2
                  go_roundw
                  case rel => exact ⟨k24 + 1, by omega, by go_num, HS.out.drewN _⟩
                  case measure => simp [intOf]; omega
                have HS := hid hS
                clear hS
                go_wp2
                go_loopw [25] (fun i wr => ∃ k : Nat, k ≤ n0 ∧ i = .int .i64 k ∧ S w' G C (fun j => if j < l then .int .u8 (z j) else .int .u8 0) n0 (fun _ => .int .u8 0) wr) (fun i _ => n0 - (intOf i).toNat)
                case atStart => exact ⟨0, by omega, rfl, HS.out⟩
                case round =>
                  clear HS
                  obtain ⟨k25, hk25, rfl, hS⟩ := hrel
                  by_cases hlt25 : k25 < n0
                  · have c1 : wr.cell? ⟨w'.heap.size, k25, none⟩ = some (.int .u8 0) := (hS.rF.cell (by omega)).trans (by first | rfl | simp [*])
                    have HS := hid hS
                    clear hS
                    have ez : ((0 : Int) != 0) = false := by simp
                    go_wp2
                    go_roundw
                    case rel => exact ⟨k25 + 1, by omega, by go_num, HS.out⟩
                    case measure => simp [intOf]; omega
                  have HS := hid hS
                  clear hS
                  obtain ⟨b', off', ha, hb', cb0⟩ := H0.out.later HS.out.bel (show 0 < n0 by omega)
                  obtain ⟨rfl, rfl⟩ : b = b' ∧ off = off' := by simpa using ha
                  have cb : wr.cell? ⟨b, off, none⟩ = some (.int .u8 (z 0)) := by simpa using cb0
                  clear cb0 ha hb'
                  have c1 : wr.cell? ⟨G, 0, none⟩ = some (.int .u8 (z 0)) := (HS.out.r1.cell (by omega)).trans (by first | rfl | simp [*])
                  have f1 := HS.out.r1.frozen 0
                  go_wp2_with fail
                  generalize bits BinOp.xor IntKind.u8 (z 0) 255 = x
                  have HZ := hid (show Below w'.heap.size w' (wr.setCell ⟨G, 0, none⟩ (.int .u8 x)) from HS.out.bel.setCell hB (.int .u8 x))
                  obtain ⟨b', off', ha, hb', cb0⟩ := H0.out.later (HS.out.bel.setCell hB (.int .u8 x) (p := ⟨G, 0, none⟩)) (show 0 < n0 by omega)
                  obtain ⟨rfl, rfl⟩ : b = b' ∧ off = off' := by simpa using ha
                  have cb2 : (wr.setCell ⟨G, 0, none⟩ (.int .u8 x)).cell? ⟨b, off, none⟩ = some (.int .u8 (z 0)) := by simpa using cb0
                  clear cb0 ha hb'
                  have c2 : (wr.setCell ⟨G, 0, none⟩ (.int .u8 x)).cell? ⟨G, 0, none⟩ = some (.int .u8 x) := ((HS.out.r1.set 0 (.int .u8 x)).cell (by omega)).trans (by simp)
                  have f2 := (HS.out.r1.set 0 (.int .u8 x)).frozen 0
                  clear cb c1 f1 HS
                  generalize wr.setCell ⟨G, 0, none⟩ (.int .u8 x) = wy at HZ cb2 c2 f2 ⊢
                  have exx : (x == x) = true := by simp
                  go_quiet (fail)
                  go_wp2
                  go_ret
                  exact ⟨rfl, (below_drewN HZ.out _).setCell hB _⟩
          · obtain ⟨mm, rfl⟩ : ∃ mm : Nat, m = mm := ⟨m.toNat, by omega⟩
            have hD1 : G < wz.heap.size := HS.out.r1.lt
            refine (grow_move _ _ _ mm (cutz l z) _ (by omega) (by omega) (by omega) (by omega) (rowIs_cutz HS.out.r1)).mono ?_
            rintro e w2 ⟨rfl, hG⟩
            have HT := hid (S3.ofB HS.out hne hB (fun j hj => by simp [cutz, hj]) hG)
            clear HS hG
            have q1 : 64 ≤ newCap C l mm ∧ 2 * C ≤ newCap C l mm ∧ l + mm ≤ newCap C l mm ∧ newCap C l mm ≤ 2 * C + mm + 64 := by unfold newCap; omega
            generalize newCap C l mm = E at HT q1 ⊢
            generalize wz.heap.size = D at HT hD1 ⊢
            obtain ⟨q1, q2, q3, q4⟩ := q1
            have e1 : decide ((E : Int) < 64) = false := decide_eq_false (by omega)
            have e2 : decide ((E : Int) < 2 * C) = false := decide_eq_false (by omega)
            have e3 : decide ((E : Int) < l + mm) = false := decide_eq_false (by omega)
            have e4 : decide (2 * (C : Int) + mm + 64 < E) = false := decide_eq_false (by omega)
            go_wp2
            go_loopw [23] (fun i wr => ∃ k : Nat, k ≤ l ∧ i = .int .i64 k ∧ S3 w' D E (fun j => if j < l then .int .u8 (z j) else .int .u8 0) G C (fun _ => .int .u8 0) n0 (fun _ => .int .u8 0) wr) (fun i _ => l - (intOf i).toNat)
            case atStart => exact ⟨0, by omega, rfl, HT.out⟩
            case round =>
              clear HT
              obtain ⟨k23, hk23, rfl, hS⟩ := hrel
              by_cases hlt23 : k23 < l
              · obtain ⟨b', off', ha, hb', cb⟩ := H0.out.later hS.s.bel (show k23 < n0 by omega)
                obtain ⟨rfl, rfl⟩ : b = b' ∧ off = off' := by simpa using ha
                clear ha
                have c1 : wr.cell? ⟨D, k23, none⟩ = some (.int .u8 (z k23)) := (hS.r2.cell (by omega)).trans (by first | rfl | simp [*])
                have HT := hid hS
                clear hS
                have ez : (z k23 != z k23) = false := by simp
                go_wp2_with fail
                go_quiet (fail)
                go_wp2
                go_roundw
                case rel => exact ⟨k23 + 1, by omega, by go_num, HT.out.drewN _⟩
                case measure => simp [intOf]; omega
              have HT := hid hS
              clear hS
              go_wp2
              go_loopw [28] (fun i wr => ∃ k : Nat, k ≤ l ∧ i = .int .i64 k ∧ S3 w' D E (fun j => if j < l then .int .u8 (z j) else .int .u8 0) G C (fun _ => .int .u8 0) n0 (fun _ => .int .u8 0) wr) (fun i _ => l - (intOf i).toNat)
              case atStart => exact ⟨0, by omega, rfl, HT.out⟩
              case round =>
                clear HT
                obtain ⟨k28, hk28, rfl, hS⟩ := hrel
                by_cases hlt28 : k28 < l
                · have c1 : wr.cell? ⟨G, k28, none⟩ = some (.int .u8 0) := (hS.s.r1.cell (by omega)).trans (by first | rfl | simp [*])
                  have HT := hid hS
                  clear hS
                  have ez : ((0 : Int) != 0) = false := by simp
                  go_wp2
                  go_roundw
                  case rel => exact ⟨k28 + 1, by omega, by go_num, HT.out⟩
                  case measure => simp [intOf]; omega
                have HT := hid hS
                clear hS
                go_wp2
                go_loopw [29] (fun i wr => ∃ k : Nat, k ≤ n0 ∧ i = .int .i64 k ∧ S3 w' D E (fun j => if j < l then .int .u8 (z j) else .int .u8 0) G C (fun _ => .int .u8 0) n0 (fun _ => .int .u8 0) wr) (fun i _ => n0 - (intOf i).toNat)
                case atStart => exact ⟨0, by omega, rfl, HT.out⟩
                case round =>
                  clear HT
                  obtain ⟨k29, hk29, rfl, hS⟩ := hrel
                  by_cases hlt29 : k29 < n0
                  · have c1 : wr.cell? ⟨w'.heap.size, k29, none⟩ = some (.int .u8 0) := (hS.s.rF.cell (by omega)).trans (by first | rfl | simp [*])
                    have HT := hid hS
                    clear hS
                    have ez : ((0 : Int) != 0) = false := by simp
                    go_wp2
                    go_roundw
                    case rel => exact ⟨k29 + 1, by omega, by go_num, HT.out⟩
                    case measure => simp [intOf]; omega
                  have HT := hid hS
                  clear hS
                  have HS := HT
                  clear HT
                  obtain ⟨b', off', ha, hb', cb0⟩ := H0.out.later HS.out.s.bel (show 0 < n0 by omega)
                  obtain ⟨rfl, rfl⟩ : b = b' ∧ off = off' := by simpa using ha
                  have cb : wr.cell? ⟨b, off, none⟩ = some (.int .u8 (z 0)) := by simpa using cb0
                  clear cb0 ha hb'
                  have c1 : wr.cell? ⟨G, 0, none⟩ = some (.int .u8 0) := (HS.out.s.r1.cell (by omega)).trans (by first | rfl | simp [*])
                  have f1 := HS.out.s.r1.frozen 0
                  go_wp2_with fail
                  have HZ := hid (show Below w'.heap.size w' (wr.setCell ⟨G, 0, none⟩ (.int .u8 1)) from HS.out.s.bel.setCell hB (.int .u8 1))
                  obtain ⟨b', off', ha, hb', cb0⟩ := H0.out.later (HS.out.s.bel.setCell hB (.int .u8 1) (p := ⟨G, 0, none⟩)) (show 0 < n0 by omega)
                  obtain ⟨rfl, rfl⟩ : b = b' ∧ off = off' := by simpa using ha
                  have cb2 : (wr.setCell ⟨G, 0, none⟩ (.int .u8 1)).cell? ⟨b, off, none⟩ = some (.int .u8 (z 0)) := by simpa using cb0
                  clear cb0 ha hb'
                  have c2 : (wr.setCell ⟨G, 0, none⟩ (.int .u8 1)).cell? ⟨G, 0, none⟩ = some (.int .u8 1) := ((HS.out.s.r1.set 0 (.int .u8 1)).cell (by omega)).trans (by simp)
                  have f2 := (HS.out.s.r1.set 0 (.int .u8 1)).frozen 0
                  have c3 : (wr.setCell ⟨G, 0, none⟩ (.int .u8 1)).cell? ⟨D, 0, none⟩ = some (.int .u8 (z 0)) := ((HS.out.r2.setOther (Nat.ne_of_gt hD1) (.int .u8 1)).cell (by omega)).trans (by first | rfl | simp [*])
                  clear cb c1 f1 HS
                  generalize wr.setCell ⟨G, 0, none⟩ (.int .u8 1) = wy at HZ cb2 c2 f2 c3 ⊢
                  have exx : (z 0 == z 0) = true := by simp
                  go_quiet (fail)
                  go_wp2
                  go_ret
                  exact ⟨rfl, (below_drewN HZ.out _).setCell hB _⟩
        · go_wp2_with fail
          by_cases hm2 : m ≤ (C : Int) - l
          · have eC : ((C : Int) != C) = false := by simp
            refine (grow_stay _ _ _ _ _ (by omega) (by omega) hm2).mono ?_
            rintro e w2 ⟨rfl, hw⟩
            obtain rfl := hw
            go_wp2
            go_loopw [23] (fun i wr => ∃ k : Nat, k ≤ l ∧ i = .int .i64 k ∧ S w' G C (fun j => if j < l then .int .u8 (z j) else .int .u8 0) n0 (fun _ => .int .u8 0) wr) (fun i _ => l - (intOf i).toNat)
            case atStart => exact ⟨0, by omega, rfl, HS.out⟩
            case round =>
              clear HS
              obtain ⟨k23, hk23, rfl, hS⟩ := hrel
              by_cases hlt23 : k23 < l
              · obtain ⟨b, off, rfl, hb, cb⟩ := H0.out.later hS.bel (show k23 < n0 by omega)
                have c1 : wr.cell? ⟨G, k23, none⟩ = some (.int .u8 (z k23)) := (hS.r1.cell (by omega)).trans (by first | rfl | simp [*])
                have HS := hid hS
                clear hS
                have ez : (z k23 != z k23) = false := by simp
                go_wp2_with fail
                go_quiet (fail)
                go_wp2
                go_roundw
                case rel => exact ⟨k23 + 1, by omega, by go_num, HS.out.drewN _⟩
                case measure => simp [intOf]; omega
              have HS := hid hS
              clear hS
              go_wp2
              go_loopw [24] (fun i wr => ∃ k : Nat, k ≤ l ∧ i = .int .i64 k ∧ S w' G C (fun j => if j < l then .int .u8 (z j) else .int .u8 0) n0 (fun _ => .int .u8 0) wr) (fun i _ => l - (intOf i).toNat)
              case atStart => exact ⟨0, by omega, rfl, HS.out⟩
              case round =>
                clear HS
                obtain ⟨k24, hk24, rfl, hS⟩ := hrel
                by_cases hlt24 : k24 < l
                · obtain ⟨b, off, rfl, hb, cb⟩ := H0.out.later hS.bel (show k24 < n0 by omega)
                  have c1 : wr.cell? ⟨G, k24, none⟩ = some (.int .u8 (z k24)) := (hS.r1.cell (by omega)).trans (by first | rfl | simp [*])
                  have HS := hid hS
                  clear hS
                  have ez : (z k24 != z k24) = false := by simp
                  go_wp2_with fail
                  go_quiet (fail)
                  go_wp2
                  go_roundw
                  case rel => exact ⟨k24 + 1, by omega, by go_num, HS.out.drewN _⟩
                  case measure => simp [intOf]; omega
                have HS := hid hS
                clear hS
                go_wp2
                go_loopw [25] (fun i wr => ∃ k : Nat, k ≤ n0 ∧ i = .int .i64 k ∧ S w' G C (fun j => if j < l then .int .u8 (z j) else .int .u8 0) n0 (fun _ => .int .u8 0) wr) (fun i _ => n0 - (intOf i).toNat)
                case atStart => exact ⟨0, by omega, rfl, HS.out⟩
                case round =>
                  clear HS
                  obtain ⟨k25, hk25, rfl, hS⟩ := hrel
                  by_cases hlt25 : k25 < n0
                  · have c1 : wr.cell? ⟨w'.heap.size, k25, none⟩ = some (.int .u8 0) := (hS.rF.cell (by omega)).trans (by first | rfl | simp [*])
                    have HS := hid hS
                    clear hS
                    have ez : ((0 : Int) != 0) = false := by simp
                    go_wp2
                    go_roundw
                    case rel => exact ⟨k25 + 1, by omega, by go_num, HS.out⟩
                    case measure => simp [intOf]; omega
                  have HS := hid hS
                  clear hS
                  go_wp2
                  go_ret
                  exact ⟨rfl, HS.out.bel⟩
          · obtain ⟨mm, rfl⟩ : ∃ mm : Nat, m = mm := ⟨m.toNat, by omega⟩
            have hD1 : G < wr.heap.size := HS.out.r1.lt
            refine (grow_move _ _ _ mm (cutz l z) _ (by omega) (by omega) (by omega) (by omega) (rowIs_cutz HS.out.r1)).mono ?_
            rintro e w2 ⟨rfl, hG⟩
            have HT := hid (S3.ofB HS.out hne hB (fun j hj => by simp [cutz, hj]) hG)
            clear HS hG
            have q1 : 64 ≤ newCap C l mm ∧ 2 * C ≤ newCap C l mm ∧ l + mm ≤ newCap C l mm ∧ newCap C l mm ≤ 2 * C + mm + 64 := by unfold newCap; omega
            generalize newCap C l mm = E at HT q1 ⊢
            generalize wr.heap.size = D at HT hD1 ⊢
            obtain ⟨q1, q2, q3, q4⟩ := q1
            have e1 : decide ((E : Int) < 64) = false := decide_eq_false (by omega)
            have e2 : decide ((E : Int) < 2 * C) = false := decide_eq_false (by omega)
            have e3 : decide ((E : Int) < l + mm) = false := decide_eq_false (by omega)
            have e4 : decide (2 * (C : Int) + mm + 64 < E) = false := decide_eq_false (by omega)
            go_wp2
            go_loopw [23] (fun i wr => ∃ k : Nat, k ≤ l ∧ i = .int .i64 k ∧ S3 w' D E (fun j => if j < l then .int .u8 (z j) else .int .u8 0) G C (fun _ => .int .u8 0) n0 (fun _ => .int .u8 0) wr) (fun i _ => l - (intOf i).toNat)
            case atStart => exact ⟨0, by omega, rfl, HT.out⟩
            case round =>
              clear HT
              obtain ⟨k23, hk23, rfl, hS⟩ := hrel
              by_cases hlt23 : k23 < l
              · obtain ⟨b, off, rfl, hb, cb⟩ := H0.out.later hS.s.bel (show k23 < n0 by omega)
                have c1 : wr.cell? ⟨D, k23, none⟩ = some (.int .u8 (z k23)) := (hS.r2.cell (by omega)).trans (by first | rfl | simp [*])
                have HT := hid hS
                clear hS
                have ez : (z k23 != z k23) = false := by simp
                go_wp2_with fail
                go_quiet (fail)
                go_wp2
                go_roundw
                case rel => exact ⟨k23 + 1, by omega, by go_num, HT.out.drewN _⟩
                case measure => simp [intOf]; omega
              have HT := hid hS
              clear hS
              go_wp2
              go_loopw [28] (fun i wr => ∃ k : Nat, k ≤ l ∧ i = .int .i64 k ∧ S3 w' D E (fun j => if j < l then .int .u8 (z j) else .int .u8 0) G C (fun _ => .int .u8 0) n0 (fun _ => .int .u8 0) wr) (fun i _ => l - (intOf i).toNat)
              case atStart => exact ⟨0, by omega, rfl, HT.out⟩
              case round =>
                clear HT
                obtain ⟨k28, hk28, rfl, hS⟩ := hrel
                by_cases hlt28 : k28 < l
                · have c1 : wr.cell? ⟨G, k28, none⟩ = some (.int .u8 0) := (hS.s.r1.cell (by omega)).trans (by first | rfl | simp [*])
                  have HT := hid hS
                  clear hS
                  have ez : ((0 : Int) != 0) = false := by simp
                  go_wp2
                  go_roundw
                  case rel => exact ⟨k28 + 1, by omega, by go_num, HT.out⟩
                  case measure => simp [intOf]; omega
                have HT := hid hS
                clear hS
                go_wp2
                go_loopw [29] (fun i wr => ∃ k : Nat, k ≤ n0 ∧ i = .int .i64 k ∧ S3 w' D E (fun j => if j < l then .int .u8 (z j) else .int .u8 0) G C (fun _ => .int .u8 0) n0 (fun _ => .int .u8 0) wr) (fun i _ => n0 - (intOf i).toNat)
                case atStart => exact ⟨0, by omega, rfl, HT.out⟩
                case round =>
                  clear HT
                  obtain ⟨k29, hk29, rfl, hS⟩ := hrel
                  by_cases hlt29 : k29 < n0
                  · have c1 : wr.cell? ⟨w'.heap.size, k29, none⟩ = some (.int .u8 0) := (hS.s.rF.cell (by omega)).trans (by first | rfl | simp [*])
                    have HT := hid hS
                    clear hS
                    have ez : ((0 : Int) != 0) = false := by simp
                    go_wp2
                    go_roundw
                    case rel => exact ⟨k29 + 1, by omega, by go_num, HT.out⟩
                    case measure => simp [intOf]; omega
                  have HT := hid hS
                  clear hS
                  go_wp2
                  go_ret
                  exact ⟨rfl, HT.out.s.bel⟩


end Go.Proofs.Qxb6617606a
