/-
  fill, walked: a buffer that grows.
-/
import Derived.Test.Qxb6616277aFmtStp
namespace Go.Proofs.Qxb6616277aFmt
open Go.RowKit Go.Deep

set_option maxHeartbeats 800000 in
set_option maxRecDepth 100000 in
theorem fill_pos (w0 : World) (R S d n : Nat) (D : Nat → Int) (x : Addr) (B L pos base : Nat) (tail : Nat → Value) (w : World) (h : Rdr w0 R S d n D x (some ⟨B, 0, none⟩) L pos pos base .nilIface tail w) (hp : 0 < pos) (hL : L < 65536) (hg : w0.cell? ⟨0, 0, none⟩ = some (eofV x)) :
    Calls Tryf.prog 46 #[.pointer (some ⟨R, 0, none⟩)] w fun e w' => e = .returned (.bool (decide (base + pos < n))) ∧ Fp w0 R S d n D x (base + pos) w' := by
  have H := hid h
  have h2 : w.cell? ⟨R, 2, none⟩ = some (.int .i64 pos) := h.rR.cell (by omega)
  have h4 : w.cell? ⟨R, 4, none⟩ = some (.int .i64 base) := h.rR.cell (by omega)
  have h5 : w.cell? ⟨R, 5, none⟩ = some .nilIface := h.rR.cell (by omega)
  have f4 := h.rR.frozen 4
  have b1 := h.le2
  have b2 := h.le3
  have b3 := h.le4
  have b4 := h.le5
  have hr1 := (h.rR.set 4 (.int .i64 ((base : Int) + pos))).congr (g := rdr (srcV S) (.slice (some ⟨B, 0, none⟩) L L) (.int .i64 pos) (.int .i64 pos) (.int .i64 ((base : Int) + pos)) .nilIface tail) (fun j hj => by rcases j with _ | _ | _ | _ | _ | _ | j <;> first | rfl | simp [rdr])
  have HC := hid (((Chg.refl (fun b => b = R) w).setCell (b := R) (k := 4) (.inl rfl) (.int .i64 ((base : Int) + pos))).drew)
  have HR := hid hr1
  clear h hr1
  go_enter Tryf.func46, Tryf.ntmps46
  go_wp2_with fail
  go_region
  have hr : ((w.setCell ⟨R, 4, none⟩ (.int .i64 ((base : Int) + pos))).drew).rowIs R 54 13 _ := HR.out
  clear h2 h4 h5 f4 HR
  generalize ((w.setCell ⟨R, 4, none⟩ (.int .i64 ((base : Int) + pos))).drew) = w1 at hr HC ⊢
  have h1 : w1.cell? ⟨R, 1, none⟩ = some (.slice (some ⟨B, 0, none⟩) L L) := hr.cell (by omega)
  have h2 : w1.cell? ⟨R, 2, none⟩ = some (.int .i64 pos) := hr.cell (by omega)
  have h3 : w1.cell? ⟨R, 3, none⟩ = some (.int .i64 pos) := hr.cell (by omega)
  have f3 := hr.frozen 3
  have hcp : ∀ ty a' c', (Builtin.copy_ #[22, 22] ty #[.slice (some ⟨B, 0, none⟩) L L, .slice a' 0 c']).run Tryf.prog w1.drew = .ok (.int .i64 0) w1.drew := fun ty a' c' => run_copy_none (P := Tryf.prog) w1.drew 22 22 ty 5 _ a' L L 0 c' Tryf.underlying22 Tryf.size5 (by simp)
  have HR2 := hid ((hr.set 3 (.int .i64 0)).congr (g := rdr (srcV S) (.slice (some ⟨B, 0, none⟩) L L) (.int .i64 pos) (.int .i64 0) (.int .i64 ((base : Int) + pos)) .nilIface tail) (fun j hj => by rcases j with _ | _ | _ | _ | _ | _ | j <;> first | rfl | simp [rdr]))
  have HC2 := hid ((HC.out.setCell (b := R) (k := 3) (.inl rfl) (.int .i64 0)).drew)
  clear hr
  go_wp2_with fail
  go_region
  have hr : ((w1.setCell ⟨R, 3, none⟩ (.int .i64 0)).drew).rowIs R 54 13 _ := HR2.out
  clear h1 h2 h3 f3 HR2 HC hcp
  generalize (if L = pos then some (⟨B, 0, none⟩ : Addr) else some ⟨B, pos, none⟩) = aa
  generalize ((w1.setCell ⟨R, 3, none⟩ (.int .i64 0)).drew) = w2 at hr HC2 ⊢
  have h1 : w2.cell? ⟨R, 1, none⟩ = some (.slice (some ⟨B, 0, none⟩) L L) := hr.cell (by omega)
  have h2 : w2.cell? ⟨R, 2, none⟩ = some (.int .i64 pos) := hr.cell (by omega)
  have f2 := hr.frozen 2
  have HR3 := hid ((hr.set 2 (.int .i64 0)).congr (g := rdr (srcV S) (.slice (some ⟨B, 0, none⟩) L L) (.int .i64 0) (.int .i64 0) (.int .i64 ((base : Int) + pos)) .nilIface tail) (fun j hj => by rcases j with _ | _ | _ | _ | _ | _ | j <;> first | rfl | simp [rdr]))
  have HC3 := hid (HC2.out.setCell (b := R) (k := 2) (.inl rfl) (.int .i64 0))
  have h1' : (w2.setCell ⟨R, 2, none⟩ (.int .i64 0)).cell? ⟨R, 1, none⟩ = some (.slice (some ⟨B, 0, none⟩) L L) := HR3.out.cell (by omega)
  obtain ⟨i5, hi5, hz0, hz1, hz2⟩ := info_parts Tryf.info5
  obtain ⟨C, hC⟩ : ∃ C : Nat, C = max (2 * L) 512 := ⟨_, rfl⟩
  have hmk := hid (show ∀ (W : World) (X : Int), X = (C : Nat) → (Instr.makeSlice 22 (.int .i64 X) (.int .i64 X)).run Tryf.prog W = .ok (.slice (some ⟨W.heap.size, 0, none⟩) C C) (W.alloc (.cells (madeCells #[.int .u8 0] C) 5)) from fun W X hX => by
    subst hX
    have h := run_make (P := Tryf.prog) W 22 5 i5 _ Tryf.underlying22 hi5 hz0 .i64 .i64 C C (by omega) (by omega) (by rw [hz2]; omega) (by omega)
    simpa [hz1, Value.cells] using h)
  have HCC := hid hC
  have hcb : C ≤ 131072 := by omega
  have hc0 : 0 < C := by omega
  clear hr hi5 hz0 hz1 hz2 hC
  have hmax : ∀ (W : World) ty, (Builtin.max_ #[3, 3] ty #[.int .i64 (2 * (L : Int)), .int .i64 512]).run Tryf.prog W = .ok (.int .i64 C) W := fun W ty => by
    rw [run_max_int2]
    have := HCC.out
    congr 2
    split <;> omega
  have hLb : decide ((L : Int) < 65536) = true := decide_eq_true (by omega)
  have hw2 : IntKind.i64.wrap (2 * (L : Int)) = 2 * (L : Int) := by rw [IntKind.wrap_i64]; omega
  clear h1' hL HC2
  go_upto_region 8 with fail
  go_wp2_with (refine wp_max rfl rfl rfl (hmax _ _) ?_)
  rw [hmk.out _ _ rfl]
  have hz2 : (w2.setCell ⟨R, 2, none⟩ (.int .i64 0)).heap.size = w2.heap.size := by simp
  have hG2 : w.heap.size ≤ w2.heap.size := by have := HC3.out.size; rw [hz2] at this; exact this
  have hr := HR3.out.alloc (.cells (madeCells #[.int .u8 0] C) 5)
  have hn := World.rowIs_made (w2.setCell ⟨R, 2, none⟩ (.int .i64 0)) (.int .u8 0) C 5
  have HC4 := hid (HC3.out.alloc (.cells (madeCells #[.int .u8 0] C) 5))
  rw [hz2] at hn
  clear h1 h2 f2 HC3 HR3 hmk hmax hLb hw2
  go_wp2_with fail
  generalize (w2.setCell ⟨R, 2, none⟩ (.int .i64 0)).alloc (.cells (madeCells #[.int .u8 0] C) 5) = w3 at hr hn HC4 ⊢
  generalize w2.heap.size = G at hn hG2 ⊢
  have h1 : w3.cell? ⟨R, 1, none⟩ = some (.slice (some ⟨B, 0, none⟩) L L) := hr.cell (by omega)
  have h3 : w3.cell? ⟨R, 3, none⟩ = some (.int .i64 0) := hr.cell (by omega)
  have f1 := hr.frozen 1
  have hcp : ∀ ty a' c', (Builtin.copy_ #[22, 22] ty #[.slice (some ⟨G, 0, none⟩) C C, .slice a' 0 c']).run Tryf.prog w3.drew = .ok (.int .i64 0) w3.drew := fun ty a' c' => run_copy_none (P := Tryf.prog) w3.drew 22 22 ty 5 _ a' C C 0 c' Tryf.underlying22 Tryf.size5 (by simp)
  have HRN := hid (show ((w3.setCell ⟨R, 1, none⟩ (.slice (some ⟨G, 0, none⟩) C C)).drew).rowIs R 54 13 _ from (hr.set 1 (.slice (some ⟨G, 0, none⟩) C C)).congr (g := rdr (srcV S) (.slice (some ⟨G, 0, none⟩) C C) (.int .i64 0) (.int .i64 0) (.int .i64 ((base : Int) + pos)) .nilIface tail) (fun j hj => by rcases j with _ | _ | _ | _ | _ | _ | j <;> first | rfl | simp [rdr]))
  have hGR : G ≠ R := rowIs_ne hn hr (by decide)
  have HGN := hid (show ((w3.setCell ⟨R, 1, none⟩ (.slice (some ⟨G, 0, none⟩) C C)).drew).rowIs G 5 C _ from hn.setOther (a := ⟨R, 1, none⟩) hGR (.slice (some ⟨G, 0, none⟩) C C))
  have HC5 := hid ((HC4.out.setCell (b := R) (k := 1) (.inl rfl) (.slice (some ⟨G, 0, none⟩) C C)).drew)
  clear hr hn HC4
  go_region
  go_wp2_with fail
  generalize (w3.setCell ⟨R, 1, none⟩ (.slice (some ⟨G, 0, none⟩) C C)).drew = w4 at HRN HGN HC5 ⊢
  clear h1 h3 f1 hcp
  have HG := hid (show w0.heap.size ≤ G by have := H.out.bel.size; omega)
  have HGd := hid (show G ≠ d from fun e => by have := H.out.rD.lt; omega)
  go_loopw [4] (fun _ wr => wr = w4) (fun _ _ => 0)
  case atStart => rfl
  case round =>
    subst hrel
    have h0 : wr.cell? ⟨R, 0, none⟩ = some (srcV S) := HRN.out.cell (by omega)
    have h1 : wr.cell? ⟨R, 1, none⟩ = some (.slice (some ⟨G, 0, none⟩) C C) := HRN.out.cell (by omega)
    have h3 : wr.cell? ⟨R, 3, none⟩ = some (.int .i64 0) := HRN.out.cell (by omega)
    have hmeth := method_read ⟨S, 0, none⟩
    obtain ⟨pr, hS0⟩ := H.out.rS
    have hRS : S ≠ R := rowIs_ne hS0 H.out.rR (by decide)
    have hRd : d ≠ R := rowIs_ne H.out.rD H.out.rR (by decide)
    have HSr := hid (HC5.out.row hS0 hRS)
    have HDr := hid (HC5.out.row H.out.rD hRd)
    clear hS0
    by_cases hin : base + pos < n
    · go_wp2_with fail
      go_region_held3 (fun w' => w'.cell? ⟨R, 0, none⟩ = some (srcV S) ∧ w'.cell? ⟨R, 1, none⟩ = some (.slice (some ⟨G, 0, none⟩) C C) ∧ w'.cell? ⟨R, 3, none⟩ = some (.int .i64 0))
        (first | go_keep | (have hr5 := hP.chg.row (show wr.drew.rowIs R 54 13 _ from HRN.out) (fun e => by rcases e with e | e; exact hRS e.symm; exact hGR e.symm); exact ⟨hr5.cell (by omega), hr5.cell (by omega), hr5.cell (by omega)⟩))
        (first | (go_at_call 83; refine (read_some S d n (base + pos) G 0 C C (min (n - (base + pos)) C) D pr _ wr.drew hin b3 rfl (by omega) (show wr.drew.rowIs S 58 3 _ from HSr.out) (show wr.drew.rowIs d 5 n _ from HDr.out) (show wr.drew.rowIs G 5 C _ from HGN.out)).mono ?_; rintro e w5 ⟨rfl, hP⟩))
      rename_i hSS
      clear hSS
      have hr5 := hP.chg.row (show wr.drew.rowIs R 54 13 _ from HRN.out) (fun e => by rcases e with e | e; exact hRS e.symm; exact hGR e.symm)
      obtain ⟨k, hk⟩ : ∃ k, k = min (n - (base + pos)) C := ⟨_, rfl⟩
      rw [← hk] at hP ⊢
      have HF := hid (Rdr.filled H.out HC5.out HRN.out HG.out HGd.out hGR hin hk hc0 hcb hP)
      have k0 : 0 < k := by omega
      have k1 : k ≤ 1048577 := by omega
      clear hk hP h0 h1 h3
      have h3 : w5.cell? ⟨R, 3, none⟩ = some (.int .i64 0) := hr5.cell (by omega)
      have f3 := hr5.frozen 3
      clear hr5
      have eni : ∀ W, (binOp .neq 28 .nilIface .nilIface).run Tryf.prog W = .ok (.bool false) W := fun _ => by kernel_rfl
      go_wp2
      go_ret
      exact ⟨by simp [hin], ⟨⟨_, _, _, _, _, _, _, by omega, HF.out⟩, fun _ => ⟨_, _, _, _, _, _, _, k0, by omega, HF.out⟩⟩⟩
    · have hgr : wr.drew.cell? ⟨0, 0, none⟩ = some (eofV x) := (HC5.out.below H.out.bel (fun b hb e => by have := H.out.geR; omega) H.out.bel.size).cell (World.block_lt_of_cell? w0 _ hg) |>.trans hg
      go_wp2_with fail
      go_region_held3 (fun w' => w'.cell? ⟨R, 0, none⟩ = some (srcV S) ∧ w'.cell? ⟨R, 1, none⟩ = some (.slice (some ⟨G, 0, none⟩) C C) ∧ w'.cell? ⟨R, 3, none⟩ = some (.int .i64 0))
        (first | go_keep | exact ⟨(hP.cell _).trans h0, (hP.cell _).trans h1, (hP.cell _).trans h3⟩)
        (first | (go_at_call 83; refine (read_end S d n (base + pos) (some ⟨G, 0, none⟩) C C x wr.drew (by omega) hgr ((show wr.drew.rowIs S 58 3 _ from HSr.out).cell (by omega)) ((show wr.drew.rowIs S 58 3 _ from HSr.out).cell (by omega))).mono ?_; rintro e w5 ⟨rfl, hP⟩))
      rename_i hSS
      clear hSS
      have hr5 : w5.rowIs R 54 13 _ := HRN.out.of_block (by rw [hP.heap]; rfl)
      have HF := hid (Rdr.ended H.out HC5.out HRN.out HGN.out HG.out HGd.out hGR hin hcb hP)
      clear hP h0 h1 h3 hgr
      have h3 : w5.cell? ⟨R, 3, none⟩ = some (.int .i64 0) := hr5.cell (by omega)
      have h5 : w5.cell? ⟨R, 5, none⟩ = some .nilIface := hr5.cell (by omega)
      have f3 := hr5.frozen 3
      have f5 := hr5.frozen 5
      clear hr5
      have eni : ∀ W, (binOp .neq 28 (eofV x) .nilIface).run Tryf.prog W = .ok (.bool true) W := fun _ => by kernel_rfl
      go_wp2
      go_ret
      exact ⟨by simp [hin], ⟨⟨_, _, _, _, _, _, _, by omega, HF.out⟩, fun h => absurd h hin⟩⟩

end Go.Proofs.Qxb6616277aFmt
