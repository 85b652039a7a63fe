/-
  fill, walked: no buffer yet.
-/
import Derived.Test.Qxb6616277aFmtStp
namespace Go.Proofs.Qxb6616277aFmt
open Go.RowKit Go.Deep

set_option maxHeartbeats 800000 in
set_option maxRecDepth 100000 in
theorem fill_zero (w0 : World) (R S d n : Nat) (D : Nat → Int) (x : Addr) (base : Nat) (tail : Nat → Value) (w : World) (h : Rdr w0 R S d n D x none 0 0 0 base .nilIface tail w) (hg : w0.cell? ⟨0, 0, none⟩ = some (eofV x)) :
    Calls Tryf.prog 46 #[.pointer (some ⟨R, 0, none⟩)] w fun e w' => e = .returned (.bool (decide (base + 0 < n))) ∧ Fp w0 R S d n D x (base + 0) w' := by
  have H := hid h
  have h1 : w.cell? ⟨R, 1, none⟩ = some (.slice none 0 0) := h.rR.cell (by omega)
  have h2 : w.cell? ⟨R, 2, none⟩ = some (.int .i64 0) := h.rR.cell (by omega)
  have h5 : w.cell? ⟨R, 5, none⟩ = some .nilIface := h.rR.cell (by omega)
  have b3 := h.le4
  have HR := hid h.rR
  obtain ⟨i5, hi5, hz0, hz1, hz2⟩ := info_parts Tryf.info5
  obtain ⟨C, hC⟩ : ∃ C : Nat, C = 512 := ⟨_, rfl⟩
  have hmk := hid (show ∀ (W : World) (X : Int), X = (C : Nat) → (Instr.makeSlice 22 (.int .i64 X) (.int .i64 X)).run Tryf.prog W = .ok (.slice (some ⟨W.heap.size, 0, none⟩) C C) (W.alloc (.cells (madeCells #[.int .u8 0] C) 5)) from fun W X hX => by
    subst hX
    have h := run_make (P := Tryf.prog) W 22 5 i5 _ Tryf.underlying22 hi5 hz0 .i64 .i64 C C (by omega) (by omega) (by rw [hz2]; omega) (by omega)
    simpa [hz1, Value.cells] using h)
  have HCC := hid hC
  have hcb : C ≤ 131072 := by omega
  have hc0 : 0 < C := by omega
  clear h hi5 hz0 hz1 hz2 hC
  have hmax : ∀ (W : World) ty, (Builtin.max_ #[3, 3] ty #[.int .i64 0, .int .i64 512]).run Tryf.prog W = .ok (.int .i64 C) W := fun W ty => by
    rw [run_max_int2, HCC.out]
    rfl
  go_enter Tryf.func46, Tryf.ntmps46
  go_upto_region 8 with fail
  go_wp2_with (refine wp_max rfl rfl rfl (hmax _ _) ?_)
  rw [hmk.out _ _ rfl]
  have hG2 : w.heap.size ≤ w.heap.size := Nat.le_refl _
  have hr := HR.out.alloc (.cells (madeCells #[.int .u8 0] C) 5)
  have hn := World.rowIs_made w (.int .u8 0) C 5
  have HC4 := hid ((Chg.refl (fun b => b = R) w).alloc (.cells (madeCells #[.int .u8 0] C) 5))
  clear h1 h2 h5 HR hmk hmax
  go_wp2_with fail
  have HLT := hid H.out.rD.lt
  have HB0 := hid H.out.bel.size
  generalize w.alloc (.cells (madeCells #[.int .u8 0] C) 5) = w3 at hr hn HC4 ⊢
  generalize hGG : w.heap.size = G at hn hG2 HLT HB0 ⊢
  have h1 : w3.cell? ⟨R, 1, none⟩ = some (.slice none 0 0) := hr.cell (by omega)
  have h3 : w3.cell? ⟨R, 3, none⟩ = some (.int .i64 0) := hr.cell (by omega)
  have f1 := hr.frozen 1
  have hcp : ∀ ty a' c', (Builtin.copy_ #[22, 22] ty #[.slice (some ⟨G, 0, none⟩) C C, .slice a' 0 c']).run Tryf.prog w3.drew = .ok (.int .i64 0) w3.drew := fun ty a' c' => run_copy_none (P := Tryf.prog) w3.drew 22 22 ty 5 _ a' C C 0 c' Tryf.underlying22 Tryf.size5 (by simp)
  have HRN := hid (show ((w3.setCell ⟨R, 1, none⟩ (.slice (some ⟨G, 0, none⟩) C C)).drew).rowIs R 54 13 _ from (hr.set 1 (.slice (some ⟨G, 0, none⟩) C C)).congr (g := rdr (srcV S) (.slice (some ⟨G, 0, none⟩) C C) (.int .i64 0) (.int .i64 0) (.int .i64 ((base : Int) + (0 : Nat))) .nilIface tail) (fun j hj => by rcases j with _ | _ | _ | _ | _ | _ | j <;> first | rfl | simp [rdr]))
  have hGR : G ≠ R := rowIs_ne hn hr (by decide)
  have HGN := hid (show ((w3.setCell ⟨R, 1, none⟩ (.slice (some ⟨G, 0, none⟩) C C)).drew).rowIs G 5 C _ from hn.setOther (a := ⟨R, 1, none⟩) hGR (.slice (some ⟨G, 0, none⟩) C C))
  have HC5 := hid ((HC4.out.setCell (b := R) (k := 1) (.inl rfl) (.slice (some ⟨G, 0, none⟩) C C)).drew)
  clear hr hn HC4
  go_region
  go_wp2_with fail
  generalize (w3.setCell ⟨R, 1, none⟩ (.slice (some ⟨G, 0, none⟩) C C)).drew = w4 at HRN HGN HC5 ⊢
  clear h1 h3 f1 hcp
  have HG := hid (show w0.heap.size ≤ G by have := HB0.out; omega)
  have HGd := hid (show G ≠ d from fun e => by have := HLT.out; omega)
  go_loopw [4] (fun _ wr => wr = w4) (fun _ _ => 0)
  case atStart => rfl
  case round =>
    subst hrel
    have h0 : wr.cell? ⟨R, 0, none⟩ = some (srcV S) := HRN.out.cell (by omega)
    have h1 : wr.cell? ⟨R, 1, none⟩ = some (.slice (some ⟨G, 0, none⟩) C C) := HRN.out.cell (by omega)
    have h3 : wr.cell? ⟨R, 3, none⟩ = some (.int .i64 0) := HRN.out.cell (by omega)
    have hmeth := method_read ⟨S, 0, none⟩
    obtain ⟨pr, hS0⟩ := H.out.rS
    have hRS : S ≠ R := rowIs_ne hS0 H.out.rR (by decide)
    have hRd : d ≠ R := rowIs_ne H.out.rD H.out.rR (by decide)
    have HSr := hid (HC5.out.row hS0 hRS)
    have HDr := hid (HC5.out.row H.out.rD hRd)
    clear hS0
    by_cases hin : base + 0 < n
    · go_wp2_with fail
      go_region_held3 (fun w' => w'.cell? ⟨R, 0, none⟩ = some (srcV S) ∧ w'.cell? ⟨R, 1, none⟩ = some (.slice (some ⟨G, 0, none⟩) C C) ∧ w'.cell? ⟨R, 3, none⟩ = some (.int .i64 0))
        (first | go_keep | (have hr5 := hP.chg.row (show wr.drew.rowIs R 54 13 _ from HRN.out) (fun e => by rcases e with e | e; exact hRS e.symm; exact hGR e.symm); exact ⟨hr5.cell (by omega), hr5.cell (by omega), hr5.cell (by omega)⟩))
        (first | (go_at_call 83; refine (read_some S d n (base + 0) G 0 C C (min (n - (base + 0)) C) D pr _ wr.drew hin b3 rfl (by omega) (show wr.drew.rowIs S 58 3 _ from HSr.out) (show wr.drew.rowIs d 5 n _ from HDr.out) (show wr.drew.rowIs G 5 C _ from HGN.out)).mono ?_; rintro e w5 ⟨rfl, hP⟩))
      rename_i hSS
      clear hSS
      have hr5 := hP.chg.row (show wr.drew.rowIs R 54 13 _ from HRN.out) (fun e => by rcases e with e | e; exact hRS e.symm; exact hGR e.symm)
      obtain ⟨k, hk⟩ : ∃ k, k = min (n - (base + 0)) C := ⟨_, rfl⟩
      rw [← hk] at hP
      rw [show min (n - base) C = k from hk.symm]
      have HF := hid (Rdr.filled H.out HC5.out HRN.out HG.out HGd.out hGR hin hk hc0 hcb hP)
      have k0 : 0 < k := by omega
      have k1 : k ≤ 1048577 := by omega
      clear hk hP h0 h1 h3
      have h3 : w5.cell? ⟨R, 3, none⟩ = some (.int .i64 0) := hr5.cell (by omega)
      have f3 := hr5.frozen 3
      clear hr5
      have eni : ∀ W, (binOp .neq 28 .nilIface .nilIface).run Tryf.prog W = .ok (.bool false) W := fun _ => by kernel_rfl
      go_wp2
      go_ret
      exact ⟨by rw [decide_eq_true hin]; rfl, ⟨⟨_, _, _, _, _, _, _, by omega, HF.out⟩, fun _ => ⟨_, _, _, _, _, _, _, k0, by omega, HF.out⟩⟩⟩
    · have hgr : wr.drew.cell? ⟨0, 0, none⟩ = some (eofV x) := (HC5.out.below H.out.bel (fun b hb e => by have := H.out.geR; omega) H.out.bel.size).cell (World.block_lt_of_cell? w0 _ hg) |>.trans hg
      go_wp2_with fail
      go_region_held3 (fun w' => w'.cell? ⟨R, 0, none⟩ = some (srcV S) ∧ w'.cell? ⟨R, 1, none⟩ = some (.slice (some ⟨G, 0, none⟩) C C) ∧ w'.cell? ⟨R, 3, none⟩ = some (.int .i64 0))
        (first | go_keep | exact ⟨(hP.cell _).trans h0, (hP.cell _).trans h1, (hP.cell _).trans h3⟩)
        (first | (go_at_call 83; refine (read_end S d n (base + 0) (some ⟨G, 0, none⟩) C C x wr.drew (by omega) hgr ((show wr.drew.rowIs S 58 3 _ from HSr.out).cell (by omega)) ((show wr.drew.rowIs S 58 3 _ from HSr.out).cell (by omega))).mono ?_; rintro e w5 ⟨rfl, hP⟩))
      rename_i hSS
      clear hSS
      have hr5 : w5.rowIs R 54 13 _ := HRN.out.of_block (by rw [hP.heap]; rfl)
      have HF := hid (Rdr.ended H.out HC5.out HRN.out HGN.out HG.out HGd.out hGR hin hcb hP)
      clear hP h0 h1 h3 hgr
      have h3 : w5.cell? ⟨R, 3, none⟩ = some (.int .i64 0) := hr5.cell (by omega)
      have h5 : w5.cell? ⟨R, 5, none⟩ = some .nilIface := hr5.cell (by omega)
      have f3 := hr5.frozen 3
      have f5 := hr5.frozen 5
      clear hr5
      have eni : ∀ W, (binOp .neq 28 (eofV x) .nilIface).run Tryf.prog W = .ok (.bool true) W := fun _ => by kernel_rfl
      go_wp2
      go_ret
      exact ⟨by rw [decide_eq_false hin]; rfl, ⟨⟨_, _, _, _, _, _, _, by omega, HF.out⟩, fun h => absurd h hin⟩⟩

end Go.Proofs.Qxb6616277aFmt
