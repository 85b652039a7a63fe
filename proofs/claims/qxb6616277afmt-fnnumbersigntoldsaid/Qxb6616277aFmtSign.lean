/-
  FnNumberSign, walked on its main road.
-/
import Derived.Test.Qxb6616277aFmtCut
import Derived.ArgAppend
namespace Go.Proofs.Qxb6616277aFmt
open Go.RowKit Go.Deep Go.Extern.Stop Go.Stop Go.Extern

theorem autF_le (D : Nat → Int) : ∀ f s p, (autF D f s p).1 ≤ p + f
  | 0, s, p => Nat.le_refl _
  | f + 1, s, p => by
    simp only [autF]
    split
    · simp
    · have := autF_le D f (by assumption) (p + 1)
      omega
theorem number_le {D : Nat → Int} {n : Nat} (h : 0 < n) : (number D n).2 ≤ n := by
  rw [← out_number h]
  have := autF_le D (n - 0) 0 0
  simpa [out, aut] using this

/-- D with a minus sign ahead. -/
def minus (D : Nat → Int) : Nat → Int
  | 0 => 45
  | j + 1 => D j

/-- 'append' by its run. -/
theorem wp_append {P : Program} {o : Oper} {a : Act} {w w' : World} {K : Act → World → Prop} {Q : Exit → Act → World → Prop} {d s : Operand} {t t' : TypeId} {v u v' : Value} (hop : o.op = .call { callee := .builtin .append, args := #[d, s], argTypes := #[t, t'] }) (hd : a.eval d = v) (hs : a.eval s = u)
    (hr : (Builtin.append_ #[t, t'] o.type #[v, u]).run P w = .ok v' w') (h : K (a.put o.dst v') w') : o.wp P a w K Q := by
  unfold Oper.wp
  simp [execOp, hop, resolve, invoke, builtin, hd, hs, hr, Result.andThen]
  exact h

/-- 'append' of bytes onto a row that has room: the run. -/
theorem run_append_bytes (W : World) (ty : TypeId) (b sLen sCap : Nat) (a : Addr) (m c q n t : Nat) (D : Nat → Int) (f : Nat → Value) (hr : W.rowIs b t n f) (hfit : sLen + m ≤ n) (hroom : sLen + m ≤ sCap) (hsrc : ∀ j, j < m → W.cell? (a.add j) = some (.int .u8 (D (q + j)))) :
    (Builtin.append_ #[22, 22] ty #[.slice (some ⟨b, 0, none⟩) sLen sCap, .slice (some a) m c]).run Tryf.prog W = .ok (.slice (some ⟨b, 0, none⟩) (sLen + m) sCap) (W.setCells b sLen (bytesAt D q m)) := by
  obtain ⟨i5, hi5, hz0, hz1, hz2⟩ := info_parts Tryf.info5
  have h := run_append_room_cells (P := Tryf.prog) W 22 ty 5 i5 Tryf.underlying22 hi5 b 0 sLen sCap a m c (bytesAt D q m) (by rw [bytesAt_length, hz1]; omega) (fun j v hv => by obtain ⟨hj, rfl⟩ := bytesAt_get hv; exact hsrc j hj) bytesAt_one hroom
    (fun j hj => by rw [bytesAt_length] at hj; rw [hz1, hr.cell (by omega)]; rfl) (fun j _ => hr.frozen _)
  rw [hz1, Nat.mul_one, Nat.zero_add] at h
  exact h

set_option maxHeartbeats 1600000 in
set_option maxRecDepth 100000 in
theorem sign_walk (F : Interp) (hS : Short F) (b off n cp : Nat) (D : Nat → Int) (x : Addr) (w : World) (hF : F.answers w.tape) (hg : w.cell? ⟨0, 0, none⟩ = some (eofV x)) (hn : n ≤ 1048576) (h0 : 0 < n) (hc : ∀ j, j < n → w.cell? ⟨b, off + j, none⟩ = some (.int .u8 (D j))) (hb : ∀ j, j < n → 0 ≤ D j ∧ D j ≤ 255)
    (f48 : 48 ≤ D 0) (f57 : D 0 ≤ 57) :
    Calls Tryf.prog 5 #[.slice (some ⟨b, off, none⟩) n cp] w fun e w' => e = .returned (.bool true) ∧ Below w.heap.size w w' := by
  have H0 : w.cell? ⟨b, off, none⟩ = some (.int .u8 (D 0)) := hc 0 h0
  have Hc := hid hc
  have Hb := hid hb
  have Hlt := hid (World.block_lt_of_cell? w _ hg)
  have g3 : decide (1048576 < n) = false := decide_eq_false (by omega)
  have g4 : decide ((1048576 : Int) < n) = false := decide_eq_false (by omega)
  have g5 : decide (n ≤ 1048576) = true := decide_eq_true hn
  have g6 : ((n : Int) == 0) = false := by simp; omega
  have g7 : decide (D 0 < 48) = false := decide_eq_false (by omega)
  have g8 : decide (57 < D 0) = false := decide_eq_false (by omega)
  obtain ⟨A, pa, ha⟩ : ∃ A pa, number D n = (A, pa) := ⟨_, _, rfl⟩
  have hpa : pa ≤ n := by have := number_le (D := D) h0; rw [ha] at this; exact this
  have hm : number (minus D) (n + 1) = (A, pa + 1) := by
    rw [number_sign (D := D) (D' := minus D) (fun _ => rfl) n rfl (by omega), ha]
  obtain ⟨i5, hi5, hz0, hz1, hz2⟩ := info_parts Tryf.info5
  have hmk : ∀ (W : World), (Instr.makeSlice 22 (.int .i64 0) (.int .i64 ((n : Int) + 1))).run Tryf.prog W = .ok (.slice (some ⟨W.heap.size, 0, none⟩) 0 (n + 1)) (W.alloc (.cells (madeCells #[.int .u8 0] (n + 1)) 5)) := fun W => by
    have h := run_make (P := Tryf.prog) W 22 5 i5 _ Tryf.underlying22 hi5 hz0 .i64 .i64 0 (n + 1) (by omega) (by omega) (by rw [hz2]; omega) (by omega)
    simpa [hz1, Value.cells] using h
  have HI := hid hi5
  have HZ := hid hz1
  clear hc hb hi5 hz0 hz1 hz2
  go_enter Tryf.func5, Tryf.ntmps5
  go_wp2_with fail
  refine (zzBytesSign_any _ _ _ w).mono ?_
  rintro e w' ⟨rfl, hw⟩
  obtain rfl := hw
  go_wp2_with fail
  refine (zzClone_any b off n cp D w' (by omega) Hc.out).mono ?_
  rintro e w1 ⟨rfl, hC1⟩
  have C1 := hid hC1
  have hne : w'.heap.size ≠ w1.heap.size := Nat.ne_of_lt hC1.row.lt
  have z1 := hC1.bel.size
  clear hC1
  have e2 : (w1.alloc (.cells (madeCells #[.int .u8 0] (n + 1)) 5)).heap.size = w1.heap.size + 1 := by simp
  have r2 := World.rowIs_made w1 (.int .u8 0) (n + 1) 5
  have r3 := r2.alloc (.cells #[.int .u8 45] 5)
  have s3 := World.rowIs_alloc (w1.alloc (.cells (madeCells #[.int .u8 0] (n + 1)) 5)) #[.int .u8 45] 5 (fun _ => .int .u8 45) (fun i hi => by rcases i with _ | i <;> first | rfl | (simp at hi))
  rw [e2] at s3
  have c3 := (C1.out.row.alloc (.cells (madeCells #[.int .u8 0] (n + 1)) 5)).alloc (.cells #[.int .u8 45] 5)
  have B3 := ((Below.refl w1.heap.size w1).alloc (Nat.le_refl _) (.cells (madeCells #[.int .u8 0] (n + 1)) 5)).alloc (by rw [e2]; omega) (.cells #[.int .u8 45] 5)
  have hap1 : ∀ ty, (Builtin.append_ #[22, 22] ty #[.slice (some ⟨w1.heap.size, 0, none⟩) 0 (n + 1), .slice (some ⟨w1.heap.size + 1, 0, none⟩) 1 1]).run Tryf.prog ((w1.alloc (.cells (madeCells #[.int .u8 0] (n + 1)) 5)).alloc (.cells #[.int .u8 45] 5)) = .ok (.slice (some ⟨w1.heap.size, 0, none⟩) 1 (n + 1)) (((w1.alloc (.cells (madeCells #[.int .u8 0] (n + 1)) 5)).alloc (.cells #[.int .u8 45] 5)).setCells w1.heap.size 0 (bytesAt (fun _ => 45) 0 1)) := fun ty =>
    run_append_bytes _ ty w1.heap.size 0 (n + 1) ⟨w1.heap.size + 1, 0, none⟩ 1 1 0 (n + 1) 5 (fun _ => 45) _ r3 (by omega) (by omega) (fun j hj => by rw [Go.WideShapes.add_plain, show 0 + j = j by omega]; exact s3.cell (by simpa using hj))
  have r4 := copied_row (D := fun _ => 45) (q := 0) (o := 0) (k := 1) r3
  have c4 := c3.of_block ((setCells_grown w1.heap.size (bytesAt (fun _ => 45) 0 1) 0 ((w1.alloc (.cells (madeCells #[.int .u8 0] (n + 1)) 5)).alloc (.cells #[.int .u8 45] 5))).block _ c3.lt (fun e => hne (Option.some.inj e)))
  have B4 := B3.grown (setCells_grown w1.heap.size (bytesAt (fun _ => 45) 0 1) 0 ((w1.alloc (.cells (madeCells #[.int .u8 0] (n + 1)) 5)).alloc (.cells #[.int .u8 45] 5))) B3.size (fun k e => Nat.le_of_eq (Option.some.inj e))
  have r4' := hid r4
  have c4' := hid c4
  have B4' := hid B4
  clear r2 r3 s3 c3 B3 r4 c4 B4 e2
  go_upto_region 10 with (refine wp_append rfl rfl rfl (hap1 _) ?_)
  clear hap1 hmk
  have e3 : w1.heap.size < (((w1.alloc (.cells (madeCells #[.int .u8 0] (n + 1)) 5)).alloc (.cells #[.int .u8 45] 5)).setCells w1.heap.size 0 (bytesAt (fun _ => 45) 0 1)).heap.size := r4'.out.lt
  generalize ((w1.alloc (.cells (madeCells #[.int .u8 0] (n + 1)) 5)).alloc (.cells #[.int .u8 45] 5)).setCells w1.heap.size 0 (bytesAt (fun _ => 45) 0 1) = w4 at r4' c4' B4' e3 ⊢
  have hap2 : ∀ ty, (Builtin.append_ #[22, 22] ty #[.slice (some ⟨w1.heap.size, 0, none⟩) 1 (n + 1), .slice (some ⟨w'.heap.size, 0, none⟩) n n]).run Tryf.prog w4 = .ok (.slice (some ⟨w1.heap.size, 0, none⟩) (n + 1) (n + 1)) (w4.setCells w1.heap.size 1 (bytesAt D 0 n)) := fun ty => by
    rw [show n + 1 = 1 + n by omega]
    exact run_append_bytes w4 ty w1.heap.size 1 (1 + n) ⟨w'.heap.size, 0, none⟩ n n 0 (n + 1) 5 D _ r4'.out (by omega) (by omega) (fun j hj => by rw [Go.WideShapes.add_plain]; exact c4'.out.cell (by omega))
  have r5 := hid ((copied_row (D := D) (q := 0) (o := 1) (k := n) r4'.out).congr (g := fun j => .int .u8 (minus D j)) (fun j hj => by
    rcases j with _ | j
    · simp [minus]
    · rw [if_pos (by omega)]
      simp [minus]))
  have c5 := hid (c4'.out.of_block ((setCells_grown w1.heap.size (bytesAt D 0 n) 1 w4).block _ c4'.out.lt (fun e => hne (Option.some.inj e))))
  have B5 := hid (B4'.out.grown (setCells_grown w1.heap.size (bytesAt D 0 n) 1 w4) B4'.out.size (fun k e => Nat.le_of_eq (Option.some.inj e)))
  clear r4' c4' B4' e3
  go_upto_region 11 with (refine wp_append rfl rfl rfl (hap2 _) ?_)
  clear hap2
  generalize w4.setCells w1.heap.size 1 (bytesAt D 0 n) = w5 at r5 c5 B5 ⊢
  go_wp2_with fail
  refine (zzClone_any w'.heap.size 0 n n D w5 (by omega) (fun j hj => by rw [Nat.zero_add]; exact c5.out.cell hj)).mono ?_
  rintro e w6 ⟨rfl, hC6⟩
  have C6 := hid hC6
  clear hC6
  have hg1 : w1.cell? ⟨0, 0, none⟩ = some (eofV x) := (C1.out.bel.cell Hlt.out).trans hg
  have l1 : 0 < w1.heap.size := Nat.lt_of_lt_of_le Hlt.out z1
  have hg5 : w5.cell? ⟨0, 0, none⟩ = some (eofV x) := (B5.out.cell l1).trans hg1
  go_wp2_with fail
  refine (run_any F hS w5 w5.heap.size n D x w6 (by rw [B5.out.tape, C1.out.bel.tape]; exact hF) hg5 C6.out.bel (Nat.le_refl _) (by omega) C6.out.row h0 Hb.out (by omega)).mono ?_
  rintro e w7 ⟨rfl, hB7⟩
  have B7 := hid hB7
  have r7 := hid (r5.out.of_block (hB7.block _ r5.out.lt))
  have b17 := hid (B5.out.trans (hB7.mono B5.out.size))
  clear hB7 C6 r5 hg5
  rw [ha]
  go_wp2_with fail
  refine (run_any F hS w1 w1.heap.size (n + 1) (minus D) x w7 (by rw [C1.out.bel.tape]; exact hF) hg1 b17.out (Nat.le_refl _) (by omega) r7.out (by omega) (fun i hi => by
    rcases i with _ | i
    · exact ⟨by simp [minus], by simp [minus]⟩
    · exact Hb.out i (by omega)) (by simp [minus])).mono ?_
  rintro e w8 ⟨rfl, hB8⟩
  have B8 := hid hB8
  have c8 := hid (C1.out.row.of_block (hB8.block _ C1.out.row.lt))
  clear hB8 r7 c5 B5 B7 b17
  rw [hm]
  go_wp2_with fail
  refine (zzNumber_plain w'.heap.size 0 n n D w8 h0 (by omega) (fun j hj => by rw [Nat.zero_add]; exact c8.out.cell hj)).mono ?_
  rintro e w9 ⟨rfl, hw9⟩
  obtain rfl := hw9
  rw [ha]
  have HB := hid (show Below w'.heap.size w' w9 from C1.out.bel.trans (B8.out.mono z1))
  clear C1 B8 c8 hg1 ha hm
  cases A with
  | false =>
    go_wp2
    go_ret
    exact ⟨rfl, HB.out⟩
  | true =>
    go_wp2
    go_ret
    exact ⟨rfl, HB.out⟩

end Go.Proofs.Qxb6616277aFmt
