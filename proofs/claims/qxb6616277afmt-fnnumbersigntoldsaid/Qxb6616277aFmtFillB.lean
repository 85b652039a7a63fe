/-
  fill, walked: a buffer that is great already.
-/
import Derived.Test.Qxb6616277aFmtStp
namespace Go.Proofs.Qxb6616277aFmt
open Go.RowKit Go.Deep

set_option maxHeartbeats 800000 in
set_option maxRecDepth 100000 in
theorem fill_big (w0 : World) (R S d n : Nat) (D : Nat → Int) (x : Addr) (B L pos base : Nat) (tail : Nat → Value) (w : World) (h : Rdr w0 R S d n D x (some ⟨B, 0, none⟩) L pos pos base .nilIface tail w) (hp : 0 < pos) (hL : 65536 ≤ L) (hg : w0.cell? ⟨0, 0, none⟩ = some (eofV x)) :
    Calls Tryf.prog 46 #[.pointer (some ⟨R, 0, none⟩)] w fun e w' => e = .returned (.bool (decide (base + pos < n))) ∧ Fp w0 R S d n D x (base + pos) w' := by
  have H := hid h
  have h2 : w.cell? ⟨R, 2, none⟩ = some (.int .i64 pos) := h.rR.cell (by omega)
  have h4 : w.cell? ⟨R, 4, none⟩ = some (.int .i64 base) := h.rR.cell (by omega)
  have h5 : w.cell? ⟨R, 5, none⟩ = some .nilIface := h.rR.cell (by omega)
  have f4 := h.rR.frozen 4
  have b1 := h.le2
  have b2 := h.le3
  have b3 := h.le4
  have b4 := h.le5
  have hr1 := (h.rR.set 4 (.int .i64 ((base : Int) + pos))).congr (g := rdr (srcV S) (.slice (some ⟨B, 0, none⟩) L L) (.int .i64 pos) (.int .i64 pos) (.int .i64 ((base : Int) + pos)) .nilIface tail) (fun j hj => by rcases j with _ | _ | _ | _ | _ | _ | j <;> first | rfl | simp [rdr])
  have HC := hid (((Chg.refl (fun b => b = R) w).setCell (b := R) (k := 4) (.inl rfl) (.int .i64 ((base : Int) + pos))).drew)
  have HR := hid hr1
  clear h hr1
  go_enter Tryf.func46, Tryf.ntmps46
  go_wp2_with fail
  go_region
  have hr : ((w.setCell ⟨R, 4, none⟩ (.int .i64 ((base : Int) + pos))).drew).rowIs R 54 13 _ := HR.out
  clear h2 h4 h5 f4 HR
  generalize ((w.setCell ⟨R, 4, none⟩ (.int .i64 ((base : Int) + pos))).drew) = w1 at hr HC ⊢
  have h1 : w1.cell? ⟨R, 1, none⟩ = some (.slice (some ⟨B, 0, none⟩) L L) := hr.cell (by omega)
  have h2 : w1.cell? ⟨R, 2, none⟩ = some (.int .i64 pos) := hr.cell (by omega)
  have h3 : w1.cell? ⟨R, 3, none⟩ = some (.int .i64 pos) := hr.cell (by omega)
  have f3 := hr.frozen 3
  have hcp : ∀ ty a' c', (Builtin.copy_ #[22, 22] ty #[.slice (some ⟨B, 0, none⟩) L L, .slice a' 0 c']).run Tryf.prog w1.drew = .ok (.int .i64 0) w1.drew := fun ty a' c' => run_copy_none (P := Tryf.prog) w1.drew 22 22 ty 5 _ a' L L 0 c' Tryf.underlying22 Tryf.size5 (by simp)
  have HR2 := hid ((hr.set 3 (.int .i64 0)).congr (g := rdr (srcV S) (.slice (some ⟨B, 0, none⟩) L L) (.int .i64 pos) (.int .i64 0) (.int .i64 ((base : Int) + pos)) .nilIface tail) (fun j hj => by rcases j with _ | _ | _ | _ | _ | _ | j <;> first | rfl | simp [rdr]))
  have HC2 := hid ((HC.out.setCell (b := R) (k := 3) (.inl rfl) (.int .i64 0)).drew)
  clear hr
  go_wp2_with fail
  go_region
  have hr : ((w1.setCell ⟨R, 3, none⟩ (.int .i64 0)).drew).rowIs R 54 13 _ := HR2.out
  clear h1 h2 h3 f3 HR2 HC hcp
  generalize (if L = pos then some (⟨B, 0, none⟩ : Addr) else some ⟨B, pos, none⟩) = aa
  generalize ((w1.setCell ⟨R, 3, none⟩ (.int .i64 0)).drew) = w2 at hr HC2 ⊢
  have h1 : w2.cell? ⟨R, 1, none⟩ = some (.slice (some ⟨B, 0, none⟩) L L) := hr.cell (by omega)
  have h2 : w2.cell? ⟨R, 2, none⟩ = some (.int .i64 pos) := hr.cell (by omega)
  have f2 := hr.frozen 2
  have HR3 := hid ((hr.set 2 (.int .i64 0)).congr (g := rdr (srcV S) (.slice (some ⟨B, 0, none⟩) L L) (.int .i64 0) (.int .i64 0) (.int .i64 ((base : Int) + pos)) .nilIface tail) (fun j hj => by rcases j with _ | _ | _ | _ | _ | _ | j <;> first | rfl | simp [rdr]))
  have HC3 := hid (HC2.out.setCell (b := R) (k := 2) (.inl rfl) (.int .i64 0))
  have h1' : (w2.setCell ⟨R, 2, none⟩ (.int .i64 0)).cell? ⟨R, 1, none⟩ = some (.slice (some ⟨B, 0, none⟩) L L) := HR3.out.cell (by omega)
  obtain ⟨f, HBw⟩ : ∃ f, Hid (w.rowIs B 5 L f ∧ w0.heap.size ≤ B ∧ B ≠ d) := by
    rcases H.out.buf with ⟨h, _⟩ | ⟨B', f, e, q1, q2, q3, _⟩
    · cases h
    · cases e
      exact ⟨f, q3, q1, q2⟩
  have hGR : B ≠ R := rowIs_ne HBw.out.1 H.out.rR (by decide)
  have HG := hid HBw.out.2.1
  have HGd := hid HBw.out.2.2
  have HGN := hid (HC3.out.row HBw.out.1 hGR)
  have hLb : decide ((L : Int) < 65536) = false := decide_eq_false (by omega)
  have hcb : L ≤ 131072 := b4
  have hc0 : 0 < L := by omega
  have HRN := HR3
  have HC5 := HC3
  clear hr h1' hL HC2 HR3 HC3 HBw
  go_wp2_with fail
  generalize w2.setCell ⟨R, 2, none⟩ (.int .i64 0) = w4 at HRN HGN HC5 ⊢
  clear h1 h2 f2
  go_loopw [4] (fun _ wr => wr = w4) (fun _ _ => 0)
  case atStart => rfl
  case round =>
    subst hrel
    have h0 : wr.cell? ⟨R, 0, none⟩ = some (srcV S) := HRN.out.cell (by omega)
    have h1 : wr.cell? ⟨R, 1, none⟩ = some (.slice (some ⟨B, 0, none⟩) L L) := HRN.out.cell (by omega)
    have h3 : wr.cell? ⟨R, 3, none⟩ = some (.int .i64 0) := HRN.out.cell (by omega)
    have hmeth := method_read ⟨S, 0, none⟩
    obtain ⟨pr, hS0⟩ := H.out.rS
    have hRS : S ≠ R := rowIs_ne hS0 H.out.rR (by decide)
    have hRd : d ≠ R := rowIs_ne H.out.rD H.out.rR (by decide)
    have HSr := hid (HC5.out.row hS0 hRS)
    have HDr := hid (HC5.out.row H.out.rD hRd)
    clear hS0
    by_cases hin : base + pos < n
    · go_wp2_with fail
      go_region_held3 (fun w' => w'.cell? ⟨R, 0, none⟩ = some (srcV S) ∧ w'.cell? ⟨R, 1, none⟩ = some (.slice (some ⟨B, 0, none⟩) L L) ∧ w'.cell? ⟨R, 3, none⟩ = some (.int .i64 0))
        (first | go_keep | (have hr5 := hP.chg.row (show wr.drew.rowIs R 54 13 _ from HRN.out) (fun e => by rcases e with e | e; exact hRS e.symm; exact hGR e.symm); exact ⟨hr5.cell (by omega), hr5.cell (by omega), hr5.cell (by omega)⟩))
        (first | (go_at_call 83; refine (read_some S d n (base + pos) B 0 L L (min (n - (base + pos)) L) D pr _ wr.drew hin b3 rfl (by omega) (show wr.drew.rowIs S 58 3 _ from HSr.out) (show wr.drew.rowIs d 5 n _ from HDr.out) (show wr.drew.rowIs B 5 L _ from HGN.out)).mono ?_; rintro e w5 ⟨rfl, hP⟩))
      rename_i hSS
      clear hSS
      have hr5 := hP.chg.row (show wr.drew.rowIs R 54 13 _ from HRN.out) (fun e => by rcases e with e | e; exact hRS e.symm; exact hGR e.symm)
      obtain ⟨k, hk⟩ : ∃ k, k = min (n - (base + pos)) L := ⟨_, rfl⟩
      rw [← hk] at hP ⊢
      have HF := hid (Rdr.filled H.out HC5.out HRN.out HG.out HGd.out hGR hin hk hc0 hcb hP)
      have k0 : 0 < k := by omega
      have k1 : k ≤ 1048577 := by omega
      clear hk hP h0 h1 h3
      have h3 : w5.cell? ⟨R, 3, none⟩ = some (.int .i64 0) := hr5.cell (by omega)
      have f3 := hr5.frozen 3
      clear hr5
      have eni : ∀ W, (binOp .neq 28 .nilIface .nilIface).run Tryf.prog W = .ok (.bool false) W := fun _ => by kernel_rfl
      go_wp2
      go_ret
      exact ⟨by simp [hin], ⟨⟨_, _, _, _, _, _, _, by omega, HF.out⟩, fun _ => ⟨_, _, _, _, _, _, _, k0, by omega, HF.out⟩⟩⟩
    · have hgr : wr.drew.cell? ⟨0, 0, none⟩ = some (eofV x) := (HC5.out.below H.out.bel (fun b hb e => by have := H.out.geR; omega) H.out.bel.size).cell (World.block_lt_of_cell? w0 _ hg) |>.trans hg
      go_wp2_with fail
      go_region_held3 (fun w' => w'.cell? ⟨R, 0, none⟩ = some (srcV S) ∧ w'.cell? ⟨R, 1, none⟩ = some (.slice (some ⟨B, 0, none⟩) L L) ∧ w'.cell? ⟨R, 3, none⟩ = some (.int .i64 0))
        (first | go_keep | exact ⟨(hP.cell _).trans h0, (hP.cell _).trans h1, (hP.cell _).trans h3⟩)
        (first | (go_at_call 83; refine (read_end S d n (base + pos) (some ⟨B, 0, none⟩) L L x wr.drew (by omega) hgr ((show wr.drew.rowIs S 58 3 _ from HSr.out).cell (by omega)) ((show wr.drew.rowIs S 58 3 _ from HSr.out).cell (by omega))).mono ?_; rintro e w5 ⟨rfl, hP⟩))
      rename_i hSS
      clear hSS
      have hr5 : w5.rowIs R 54 13 _ := HRN.out.of_block (by rw [hP.heap]; rfl)
      have HF := hid (Rdr.ended H.out HC5.out HRN.out HGN.out HG.out HGd.out hGR hin hcb hP)
      clear hP h0 h1 h3 hgr
      have h3 : w5.cell? ⟨R, 3, none⟩ = some (.int .i64 0) := hr5.cell (by omega)
      have h5 : w5.cell? ⟨R, 5, none⟩ = some .nilIface := hr5.cell (by omega)
      have f3 := hr5.frozen 3
      have f5 := hr5.frozen 5
      clear hr5
      have eni : ∀ W, (binOp .neq 28 (eofV x) .nilIface).run Tryf.prog W = .ok (.bool true) W := fun _ => by kernel_rfl
      go_wp2
      go_ret
      exact ⟨by simp [hin], ⟨⟨_, _, _, _, _, _, _, by omega, HF.out⟩, fun h => absurd h hin⟩⟩

end Go.Proofs.Qxb6616277aFmt
