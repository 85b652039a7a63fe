/-
  The small functions: the getters of a group, ZZnewPerFileLine, ZZnoLines, the two bounds on total length.
-/
import Derived.Test.Qxb6616265aMem
import Derived.Deep.OwnRows
namespace Go.Proofs.Qxb6616265a
open Go.RowKit Go.Maps

theorem Try.info86 : (Try.prog.info? 86).map (fun i => (i.zero, i.size, i.bytes)) = some (some (.agg #[.string ⟨#[]⟩, .pointer none, .slice none 0 0]), 3, 48) := by kernel_rfl

set_option maxHeartbeats 400000 in
theorem noLines_any (w : World) : Calls Try.prog 12 #[] w fun e w' => e = .returned (.slice none 0 0) ∧ w' = w := by
  go_enter Try.func12, Try.ntmps12
  go_wp2
  go_ret
  exact ⟨rfl, rfl⟩

set_option maxHeartbeats 400000 in
theorem groupKey_any (x y : Value) (s : ByteArray) (w : World) (hx : ∃ a n c, x = .slice a n c) (hy : ∃ a n c, y = .slice a n c) :
    Calls Try.prog 15 #[.agg #[x, y, .string s]] w fun e w' => e = .returned (.string s) ∧ Below w.heap.size w w' := by
  obtain ⟨a1, n1, c1, rfl⟩ := hx
  obtain ⟨a2, n2, c2, rfl⟩ := hy
  go_enter Try.func15, Try.ntmps15
  go_wp2
  go_ret
  exact ⟨rfl, (Below.refl _ _).alloc (Nat.le_refl _) _⟩

set_option maxHeartbeats 400000 in
theorem groupPatterns_any (a1 : Option Addr) (n1 c1 : Nat) (a2 : Option Addr) (n2 c2 : Nat) (s : ByteArray) (w : World) :
    Calls Try.prog 16 #[.agg #[.slice a1 n1 c1, .slice a2 n2 c2, .string s]] w fun e w' => e = .returned (.slice a2 n2 c2) ∧ Below w.heap.size w w' := by
  go_enter Try.func16, Try.ntmps16
  go_wp2
  go_ret
  exact ⟨rfl, (Below.refl _ _).alloc (Nat.le_refl _) _⟩

set_option maxHeartbeats 400000 in
theorem groupLinesOf_any (a1 : Option Addr) (n1 c1 : Nat) (a2 : Option Addr) (n2 c2 : Nat) (s : ByteArray) (w : World) :
    Calls Try.prog 18 #[.agg #[.slice a1 n1 c1, .slice a2 n2 c2, .string s]] w fun e w' => e = .returned (.slice a1 n1 c1) ∧ Below w.heap.size w w' := by
  go_enter Try.func18, Try.ntmps18
  go_wp2
  go_ret
  exact ⟨rfl, (Below.refl _ _).alloc (Nat.le_refl _) _⟩

set_option maxHeartbeats 400000 in
theorem segID_any (r : Nat) (t : Int) (w : World) (h : w.cell? ⟨r, 1, none⟩ = some (.int .u32 t)) :
    Calls Try.prog 17 #[.slice (some ⟨r, 0, none⟩) 1 1, .int .i64 0] w fun e w' => e = .returned (.int .u32 t) ∧ w' = w := by
  go_enter Try.func17, Try.ntmps17
  go_wp2
  go_ret
  exact ⟨rfl, rfl⟩

/-- What a line's blocks hold. -/
structure WG (W : World) (base p q r c : Nat) (key : ByteArray) (tag : Int) : Prop where
  hp : ∃ ga gc, W.heap[p]? = some (.cells #[.slice ga c gc, .slice (some ⟨q, 0, none⟩) 1 1, .string key] 58 (0, 0))
  hq : W.heap[q]? = some (.cells #[.slice (some ⟨r, 0, none⟩) 1 1] 45 (0, 0))
  hr : W.heap[r]? = some (.cells #[.bool false, .int .u32 tag, .slice none 0 0] 56 (0, 0))
  bp : base ≤ p
  bq : base ≤ q
  br : base ≤ r

theorem make53 (c : Nat) (hc : c ≤ 255) : ∃ o : Obj, ∀ w : World, (Instr.makeSlice 53 (.int .i64 c) (.int .i64 c)).run Try.prog w = .ok (.slice (some ⟨w.heap.size, 0, none⟩) c c) (w.alloc o) := by
  obtain ⟨i, hi, hz0, hz1, hz2⟩ := info_parts Try.info86
  refine ⟨.cells (madeCells (Value.agg #[.string ⟨#[]⟩, .pointer none, .slice none 0 0]).cells (c * i.size)) 86, fun w => ?_⟩
  have h := run_make (P := Try.prog) w 53 86 i _ Try.underlying53 hi hz0 .i64 .i64 c c (by omega) (Int.le_refl _) (by rw [hz2]; omega) (by omega)
  simpa using h

theorem heap5 (w : World) (a b c d e : Obj) :
    let W := ((((w.alloc a).alloc b).alloc c).alloc d).alloc e
    W.heap[w.heap.size + 2]? = some c ∧ W.heap[w.heap.size + 3]? = some d ∧ W.heap[w.heap.size + 4]? = some e ∧ Below w.heap.size w W := by
  refine ⟨?_, ?_, ?_, ?_⟩
  · rw [Below.heap_alloc _ _ _ (by simp), Below.heap_alloc _ _ _ (by simp)]
    have h := heap_alloc_new ((w.alloc a).alloc b) c
    simpa using h
  · rw [Below.heap_alloc _ _ _ (by simp)]
    have h := heap_alloc_new (((w.alloc a).alloc b).alloc c) d
    simpa using h
  · have h := heap_alloc_new ((((w.alloc a).alloc b).alloc c).alloc d) e
    simpa using h
  · exact (((((Below.refl _ _).alloc (Nat.le_refl _) _).alloc (by simp) _).alloc (by simp; omega) _).alloc (by simp; omega) _).alloc (by simp; omega) _

/-- What ZZnewPerFileLine leaves. -/
def NLine (w : World) (c : Nat) (key : ByteArray) (tag : Int) (e : Ending) (w' : World) : Prop :=
  ∃ p q r, e = .returned (.agg #[.string ⟨#[]⟩, .pointer none, .pointer (some ⟨p, 0, none⟩)]) ∧ Below w.heap.size w w' ∧ WG w' w.heap.size p q r c key tag

set_option maxHeartbeats 400000 in
theorem newLine_any (c : Nat) (key : ByteArray) (tag : Int) (w : World) (hc : c ≤ 255) :
    Calls Try.prog 13 #[.int .i64 c, .string key, .int .u32 tag] w fun e w' => NLine w c key tag e w' := by
  obtain ⟨o, hmk⟩ := make53 c hc
  have H := hid (heap5 w (.cells #[.string ⟨#[]⟩, .pointer none, .pointer (some ⟨w.heap.size + 4, 0, none⟩)] 35) o (.cells #[.bool false, .int .u32 tag, .slice none 0 0] 56) (.cells #[.slice (some ⟨w.heap.size + 2, 0, none⟩) 1 1] 45) (.cells #[.slice (some ⟨w.heap.size + 1, 0, none⟩) c c, .slice (some ⟨w.heap.size + 3, 0, none⟩) 1 1, .string key] 58))
  go_enter Try.func13, Try.ntmps13
  go_wp2
  obtain ⟨h2, h3, h4, hb⟩ := H.out
  exact bodyPost_ret (v := .agg #[.string ⟨#[]⟩, .pointer none, .pointer (some ⟨w.heap.size + 4, 0, none⟩)]) (by simp [results, Try.results13, go_sem]) rfl ⟨w.heap.size + 4, w.heap.size + 3, w.heap.size + 2, rfl, hb, ⟨⟨_, _, h4⟩, h3, h2, by omega, by omega, by omega⟩⟩

/-- A slice that came in, read: nothing, or a row of values. -/
def Row0 (w : World) (a : Option Addr) (len : Nat) (vs : Nat → Value) : Prop := len = 0 ∨ ∃ b off, a = some ⟨b, off, none⟩ ∧ b < w.heap.size ∧ ∀ k, k < len → w.cell? ⟨b, off + k, none⟩ = some (vs k)

theorem Row0.below {w w' : World} {a : Option Addr} {len B : Nat} {vs : Nat → Value} (h : Row0 w a len vs) (hb : Below B w w') (hB : w.heap.size ≤ B) : Row0 w' a len vs := by
  rcases h with h | ⟨b, off, h1, h2, h3⟩
  · exact .inl h
  · exact .inr ⟨b, off, h1, Nat.lt_of_lt_of_le h2 hb.size, fun k hk => by rw [hb.cell (p := ⟨b, off + k, none⟩) (Nat.lt_of_lt_of_le h2 hB)]; exact h3 k hk⟩

/-- What a bound on total length says. -/
def ZB (n0 n1 n2 : Nat) (w : World) (e : Ending) (w' : World) : Prop := w' = w ∧ (e = .returned (.bool false) ∨ (e = .returned (.bool true) ∧ n0 ≤ 1048576 ∧ n1 ≤ 1048576 ∧ n2 ≤ 1048576))

set_option maxHeartbeats 1000000 in
theorem zzBytes_any (a0 a1 a2 : Option Addr) (n0 c0 n1 c1 n2 c2 : Nat) (key : Nat → ByteArray) (w : World) (hr : Row0 w a1 n1 (fun k => .string (key k))) :
    Calls Try.prog 11 #[.slice a0 n0 c0, .slice a1 n1 c1, .slice a2 n2 c2] w fun e w' => ZB n0 n1 n2 w e w' := by
  by_cases h0 : n0 ≤ 1048576
  · by_cases h1 : n1 ≤ 1048576
    · by_cases h2 : n0 + n1 ≤ 1048576
      · go_enter Try.func11, Try.ntmps11
        go_wp2
        go_loop [7, 8] (fun t i => ∃ k : Nat, k ≤ n1 ∧ i = .int .i64 k ∧ ∃ z : Int, 0 ≤ z ∧ z ≤ 1048576 ∧ t = .int .i64 z) (fun _ i => n1 - (intOf i).toNat)
        case atStart => exact ⟨0, by omega, rfl, _, by omega, by omega, rfl⟩
        case round =>
          obtain ⟨k, hk, rfl, z, hz0, hz1, rfl⟩ := hrel
          by_cases hlt : k < n1
          · rcases hr with hr | ⟨b, off, rfl, hb, hc⟩
            · omega
            have hck : w.cell? ⟨b, off + k, none⟩ = some (.string (key k)) := hc k hlt
            generalize hs : key k = s at hck
            clear hs hc
            by_cases h3 : s.size ≤ 1048576
            · by_cases h4 : z + s.size ≤ 1048576
              · go_wp2
                go_round
                case rel => exact ⟨k + 1, by omega, by go_num, _, by omega, h4, rfl⟩
                case measure => simp [intOf]; omega
              · go_wp2
                go_ret
                exact ⟨rfl, .inl rfl⟩
            · go_wp2
              go_ret
              exact ⟨rfl, .inl rfl⟩
          · by_cases h5 : n2 ≤ 1048576
            · by_cases h6 : z + n2 ≤ 1048576
              · go_wp2
                go_ret
                exact ⟨rfl, .inr ⟨rfl, h0, h1, h5⟩⟩
              · go_wp2
                go_ret
                exact ⟨rfl, .inl rfl⟩
            · go_wp2
              go_ret
              exact ⟨rfl, .inl rfl⟩
      · go_enter Try.func11, Try.ntmps11
        go_wp2
        go_ret
        exact ⟨rfl, .inl rfl⟩
    · go_enter Try.func11, Try.ntmps11
      go_wp2
      go_ret
      exact ⟨rfl, .inl rfl⟩
  · go_enter Try.func11, Try.ntmps11
    go_wp2
    go_ret
    exact ⟨rfl, .inl rfl⟩

end Go.Proofs.Qxb6616265a
