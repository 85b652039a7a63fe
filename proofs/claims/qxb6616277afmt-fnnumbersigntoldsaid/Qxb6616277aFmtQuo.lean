/-
  quoteChar and invalid, walked: fmt's text told.
-/
import Derived.Test.Qxb6616277aFmtNeed
import Derived.Stop.CallBack
import Derived.Stop.IfaceNil
import GoSem.ClaimData
namespace Go.Proofs.Qxb6616277aFmt
open Go.RowKit Go.Deep Go.Extern.Stop Go.Stop Go.Extern

theorem Tryf.call56 (args : Array Value) (w : World) : (callFunc 56 args).run Tryf.prog w = ((FmtStop.sprintf #[9, 97] #[9] args).run Tryf.prog w).andThen fun v w' => .ok (.value v) w' :=
  run_callFunc_extern Tryf.func56 (by kernel_rfl) (by kernel_rfl) (by kernel_rfl) (by kernel_rfl) args w
theorem Tryf.guard (name : String) (w : World) : (FmtStop.guard name).run Tryf.prog w = .ok () w := by kernel_rfl
theorem Tryf.fmt0 : FmtStop.printed? ⟨#[39, 92, 120, 37, 48, 50, 120, 39]⟩ 1 = some [(0, 120, false)] := by kernel_rfl
def Tryf.shape5 : List UInt8 := [6, 5, 0, 0, 0, 0, 0, 0, 0, 117, 105, 110, 116, 56]
theorem Tryf.op5_120 (name : String) (x : Int) (w : World) : (FmtStop.operand name false 120 false (.iface 5 (.int .u8 x))).run Tryf.prog w = .ok (Tryf.shape5, Go.Extern.Stop.digits 8 (x % 2 ^ 64).toNat) w := by kernel_rfl

/-- What fmt.Sprintf is asked. -/
def readingX (c : Int) : List (List UInt8) := [[39, 92, 120, 37, 48, 50, 120, 39], Tryf.shape5, Go.Extern.Stop.digits 8 (c % 2 ^ 64).toNat]
/-- The texts told are short. -/
def Short (F : Interp) : Prop := ∀ c : Int, 0 ≤ c → c ≤ 255 → (FmtStop.textOf (F "fmt.Sprintf" (readingX c) 0)).size ≤ 64

attribute [local go_sem] Tryf.call56 Tryf.guard Tryf.fmt0 Tryf.op5_120

set_option maxHeartbeats 800000 in
set_option maxRecDepth 100000 in
theorem quote_told (F : Interp) (c : Int) (w : World) (hF : F.answers w.tape) (h0 : 0 ≤ c) (h1 : c ≤ 255) (hc : c < 32 ∨ 128 ≤ c) :
    Calls Tryf.prog 45 #[.int .u8 c] w fun e w' => e = .returned (.string (FmtStop.textOf (F "fmt.Sprintf" (readingX c) 0))) ∧ Chg (fun _ => False) w w' := by
  have hF' := answers_open hF
  have hd1 : c ≠ 39 := by omega
  rcases hc with hc | hc
  · have hd2 : decide ((32 : Int) ≤ c) = false := decide_eq_false (by omega)
    go_enter Tryf.func45, Tryf.ntmps45
    go_wp2
    go_ret
    exact ⟨rfl, ((Chg.refl _ w).alloc _).drew⟩
  · have hd2 : decide ((32 : Int) ≤ c) = true := decide_eq_true (by omega)
    have hd3 : decide (c < 128) = false := decide_eq_false (by omega)
    go_enter Tryf.func45, Tryf.ntmps45
    go_wp2
    go_ret
    exact ⟨rfl, ((Chg.refl _ w).alloc _).drew⟩

theorem encode_short : ∀ u : Fin 128, (Utf8.encode (u.val : Int)).size ≤ 4 := by decide +kernel

set_option maxHeartbeats 800000 in
set_option maxRecDepth 100000 in
theorem quote_plain (c : Int) (w : World) (h0 : 32 ≤ c) (h1 : c < 128) :
    Calls Tryf.prog 45 #[.int .u8 c] w fun e w' => (∃ s : ByteArray, e = .returned (.string s) ∧ s.size ≤ 64) ∧ Chg (fun _ => False) w w' := by
  by_cases hd : c = 39
  · subst hd
    go_enter Tryf.func45, Tryf.ntmps45
    go_wp2
    go_ret
    exact ⟨⟨_, rfl, by decide⟩, Chg.refl _ w⟩
  · have hd2 : decide ((32 : Int) ≤ c) = true := decide_eq_true (by omega)
    have hd3 : decide (c < 128) = true := decide_eq_true (by omega)
    obtain ⟨t, ht⟩ : ∃ t, t = Utf8.encode c := ⟨_, rfl⟩
    have hsz : t.size ≤ 4 := by
      have := encode_short ⟨c.toNat, by omega⟩
      rw [ht]
      simpa [show ((c.toNat : Nat) : Int) = c by omega] using this
    have e1 : (⟨#[39]⟩ : ByteArray).size = 1 := rfl
    have HS := hid (show ((⟨#[39]⟩ : ByteArray) ++ t ++ ⟨#[39]⟩).size ≤ 64 by rw [ByteArray.size_append, ByteArray.size_append, e1]; omega)
    rw [ht] at hsz HS
    clear ht e1
    go_enter Tryf.func45, Tryf.ntmps45
    go_wp2
    all_goals first | (exfalso; omega) | (go_ret; exact ⟨⟨_, rfl, HS.out⟩, Chg.refl _ w⟩)

theorem quote_any (F : Interp) (c : Int) (w : World) (hF : F.answers w.tape) (hS : Short F) (h0 : 0 ≤ c) (h1 : c ≤ 255) :
    Calls Tryf.prog 45 #[.int .u8 c] w fun e w' => (∃ s : ByteArray, e = .returned (.string s) ∧ s.size ≤ 64) ∧ Chg (fun _ => False) w w' := by
  by_cases hc : c < 32 ∨ 128 ≤ c
  · refine (quote_told F c w hF h0 h1 hc).mono ?_
    rintro e w' ⟨rfl, hx⟩
    exact ⟨⟨_, rfl, hS c h0 h1⟩, hx⟩
  · exact quote_plain c w (by omega) (by omega)

theorem Chg.cell {w W : World} (h : Chg (fun _ => False) w W) {a : Addr} {v : Value} (hc : w.cell? a = some v) : W.cell? a = some v := by
  have hb := World.block_lt_of_cell? w a hc
  have := h.block a.block hb id
  exact (World.cell?_of_block (w := w) this).trans hc

set_option maxHeartbeats 800000 in
set_option maxRecDepth 100000 in
/-- invalid, in a numeric literal. -/
theorem invalid_any (F : Interp) (hS : Short F) (w0 : World) (R S d n : Nat) (D : Nat → Int) (x : Addr) (P : Nat) (w : World) (hF : F.answers w.tape) (h : Ready w0 R S d n D x P w) (hD : 0 ≤ D P ∧ D P ≤ 255) :
    Calls Tryf.prog 30 #[.pointer (some ⟨R, 0, none⟩), .string ⟨#[105, 110, 32, 110, 117, 109, 101, 114, 105, 99, 32, 108, 105, 116, 101, 114, 97, 108]⟩] w fun e w' => (∃ v, e = .returned (.iface 76 v)) ∧ At w0 R S d n D x P w' := by
  have hA := hid h.at
  obtain ⟨B, L, pos, lk⟩ := h.look
  have h1 := lk.h1
  have h2 := lk.h2
  have hb := lk.hb
  have b1 := lk.lt
  have b2 := lk.le
  obtain ⟨base, b3, h4⟩ := lk.off
  have HQ := hid (quote_any F (D P) w.drew hF hS hD.1 hD.2)
  clear h lk
  go_enter Tryf.func30, Tryf.ntmps30
  go_wp2_with fail
  go_region_held3 (fun w' => w'.cell? ⟨R, 1, none⟩ = some (.slice (some ⟨B, 0, none⟩) L L) ∧ w'.cell? ⟨R, 2, none⟩ = some (.int .i64 pos) ∧ w'.cell? ⟨R, 4, none⟩ = some (.int .i64 base) ∧ w'.cell? ⟨B, pos, none⟩ = some (.int .u8 (D P)))
    (first | go_keep | (exact ⟨hc.cell (show w.drew.cell? _ = _ from h1), hc.cell (show w.drew.cell? _ = _ from h2), hc.cell (show w.drew.cell? _ = _ from h4), hc.cell (show w.drew.cell? _ = _ from hb)⟩))
    (first | (go_at_call 45; refine HQ.out.mono ?_; rintro e w5 ⟨⟨s, rfl, hs⟩, hc⟩; have hq1 : ¬ 9223372036854775807 < 18 + s.size := (by omega); have hq2 : ¬ 9223372036854775807 < 18 + s.size + 1 := (by omega); have hq3 : ¬ 9223372036854775807 < 18 + s.size + 1 + 18 := (by omega)))
  rename_i hSS
  clear hSS
  go_wp2
  go_ret
  exact ⟨⟨_, rfl⟩, hA.out.keep (((Chg.refl _ _).drew.trans hc).alloc _)⟩

end Go.Proofs.Qxb6616277aFmt
