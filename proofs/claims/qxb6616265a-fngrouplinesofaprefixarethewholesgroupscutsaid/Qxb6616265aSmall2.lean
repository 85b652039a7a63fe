/-
  The second law's bound on total length; small words for her walk.
-/
import Derived.Test.Qxb6616265aFin
import Derived.Test.Qxb6616265aPlain2
import Derived.Deep.Draws
namespace Go.Proofs.Qxb6616265a
open Go.RowKit Go.Maps

set_option maxHeartbeats 1000000 in
theorem zzBytes2_any (cu : Int) (a0 a1 a2 : Option Addr) (n0 c0 n1 c1 n2 c2 : Nat) (key : Nat → ByteArray) (w : World) (hr : Row0 w a1 n1 (fun k => .string (key k))) :
    Calls Try.prog 19 #[.slice a0 n0 c0, .slice a1 n1 c1, .slice a2 n2 c2, .int .i64 cu] w fun e w' => ZB n0 n1 n2 w e w' := by
  by_cases h0 : n0 ≤ 1048576
  · by_cases h1 : n1 ≤ 1048576
    · by_cases h2 : n0 + n1 ≤ 1048576
      · go_enter Try.func19, Try.ntmps19
        go_wp2
        go_loop [9, 10] (fun t i => ∃ k : Nat, k ≤ n1 ∧ i = .int .i64 k ∧ ∃ z : Int, 0 ≤ z ∧ z ≤ 1048576 ∧ t = .int .i64 z) (fun _ i => n1 - (intOf i).toNat)
        case atStart => exact ⟨0, by omega, rfl, _, by omega, by omega, rfl⟩
        case round =>
          obtain ⟨k, hk, rfl, z, hz0, hz1, rfl⟩ := hrel
          by_cases hlt : k < n1
          · rcases hr with hr | ⟨b, off, rfl, hb, hc⟩
            · omega
            have hck : w.cell? ⟨b, off + k, none⟩ = some (.string (key k)) := hc k hlt
            generalize hs : key k = s at hck
            clear hs hc
            by_cases h3 : s.size ≤ 1048576
            · by_cases h4 : z + s.size ≤ 1048576
              · go_wp2
                go_round
                case rel => exact ⟨k + 1, by omega, by go_num, _, by omega, h4, rfl⟩
                case measure => simp [intOf]; omega
              · go_wp2
                go_ret
                exact ⟨rfl, .inl rfl⟩
            · go_wp2
              go_ret
              exact ⟨rfl, .inl rfl⟩
          · by_cases h5 : n2 ≤ 1048576
            · by_cases h6 : z + n2 ≤ 1048576
              · go_wp2
                go_ret
                exact ⟨rfl, .inr ⟨rfl, h0, h1, h5⟩⟩
              · go_wp2
                go_ret
                exact ⟨rfl, .inl rfl⟩
            · go_wp2
              go_ret
              exact ⟨rfl, .inl rfl⟩
      · go_enter Try.func19, Try.ntmps19
        go_wp2
        go_ret
        exact ⟨rfl, .inl rfl⟩
    · go_enter Try.func19, Try.ntmps19
      go_wp2
      go_ret
      exact ⟨rfl, .inl rfl⟩
  · go_enter Try.func19, Try.ntmps19
    go_wp2
    go_ret
    exact ⟨rfl, .inl rfl⟩


theorem stepP {c : Nat → Nat} {key : Nat → ByteArray} {f k : Nat} (h : ∀ j, j < f → c j = 0 ∨ key j ≠ key k) (hf : c f = 0 ∨ key f ≠ key k) : ∀ j, j < f + 1 → c j = 0 ∨ key j ≠ key k := fun j hj => by
  by_cases e : j = f
  · subst e; exact hf
  · exact h j (by omega)

theorem below_draws {B : Nat} {w wr : World} (h : Below B w wr) (m : Nat) : Below B w (wr.drewN m) := ⟨h.os, h.tape, h.output, h.size, h.block⟩

/-- One more line laid: old memory stands. -/
theorem below_line {w wr w5 w6 : World} {o : Obj} {row : Option Nat} (h : Below w.heap.size w wr) (hb : Below wr.heap.size wr w5) (hg : (w5.alloc o).grownBy w6 row) (hr : ∀ b, row = some b → w.heap.size ≤ b) : Below w.heap.size w w6 := by
  have h1 : Below wr.heap.size wr (w5.alloc o) := hb.alloc hb.size o
  exact (h.trans (h1.mono h.size)).grown hg (by have := h1.size; have := h.size; omega) hr

end Go.Proofs.Qxb6616265a
