/-
  groupLines: the loop's invariant and its three steps. No walk.
-/
import Derived.Test.Qxb6616265aMem
namespace Go.Proofs.Qxb6616265a
open Go.RowKit Go.Maps
open Go.WideMaps (keyOf_string_mk)

/-- Line j as groupLines reads it. -/
structure LineAt (W : World) (b j p q c : Nat) (key : ByteArray) : Prop where
  d0 : ∃ s, W.cell? ⟨b, j * 3, none⟩ = some (.string s)
  d1 : W.cell? ⟨b, j * 3 + 1, none⟩ = some (.pointer none)
  d2 : W.cell? ⟨b, j * 3 + 2, none⟩ = some (.pointer (some ⟨p, 0, none⟩))
  e0 : ∃ ga gc, W.cell? ⟨p, 0, none⟩ = some (.slice ga c gc)
  e1 : W.cell? ⟨p, 1, none⟩ = some (.slice (some ⟨q, 0, none⟩) 1 1)
  e2 : W.cell? ⟨p, 2, none⟩ = some (.string key)
  bl : b < W.heap.size
  pl : p < W.heap.size
  ks : key.size ≤ maxLen

theorem LineAt.below {W W' : World} {b j p q c B : Nat} {key : ByteArray} (h : LineAt W b j p q c key) (hb : Below B W W') (hB : W.heap.size ≤ B) : LineAt W' b j p q c key := by
  have hc : ∀ o, W'.cell? ⟨b, o, none⟩ = W.cell? ⟨b, o, none⟩ := fun o => hb.cell (p := ⟨b, o, none⟩) (Nat.lt_of_lt_of_le h.bl hB)
  have hp : ∀ o, W'.cell? ⟨p, o, none⟩ = W.cell? ⟨p, o, none⟩ := fun o => hb.cell (p := ⟨p, o, none⟩) (Nat.lt_of_lt_of_le h.pl hB)
  refine ⟨?_, ?_, ?_, ?_, ?_, ?_, Nat.lt_of_lt_of_le h.bl hb.size, Nat.lt_of_lt_of_le h.pl hb.size, h.ks⟩
  · rw [hc]; exact h.d0
  · rw [hc]; exact h.d1
  · rw [hc]; exact h.d2
  · rw [hp]; exact h.e0
  · rw [hp]; exact h.e1
  · rw [hp]; exact h.e2

/-- The lines of leader f behind i lines, as cells. -/
def lnv (c : Nat → Nat) (key : Nat → ByteArray) (f i : Nat) : List Value := (Ln c key f i).map fun k : Nat => Value.int .i64 (k : Int)

/-- The loop's invariant. -/
structure GI (W : World) (c : Nat → Nat) (key : Nat → ByteArray) (q : Nat → Nat) (i : Nat) (gv : Value) (wr : World) : Prop where
  bel : Below W.heap.size W wr
  sz : W.heap.size + 1 ≤ wr.heap.size
  map : ∃ D, wr.ownsMap Try.prog 9 (plainElem Try.prog 3) W.heap.size i D ∧ MapOK c key D i
  row : ∃ lv, wr.ownsRow (W.heap.size + 1) 41 3 gv (Lf c key i).length (rowOf lv q key (Lf c key i)) ∧
    (∀ f, f ∈ Lf c key i → wr.ownsRow (W.heap.size + 1) 3 1 (lv f) (Ln c key f i).length (lnv c key f i)) ∧
    (∀ f f', f ∈ Lf c key i → f' ∈ Lf c key i → f ≠ f' → (lv f).ownBlock ≠ (lv f').ownBlock)

theorem slice_of_row {w : World} {base n size : Nat} {e : TypeId} {v : Value} {xs : List Value} (h : w.ownsRow base e size v n xs) : ∃ sa sc, v = .slice sa n sc := by
  obtain ⟨_, ⟨rfl, rfl⟩ | ⟨g, cap, cur, rfl, _⟩⟩ := h
  · exact ⟨none, 0, rfl⟩
  · exact ⟨_, _, rfl⟩

/-- Rows of different element types lie apart. -/
theorem rows_apart {w : World} {base base' n n' s s' g : Nat} {e e' : TypeId} {v v' : Value} {xs xs' : List Value} (h : w.ownsRow base e s v n xs) (h' : w.ownsRow base' e' s' v' n' xs') (he : e ≠ e') (hg : v.ownBlock = some g) : v'.ownBlock ≠ some g := by
  intro hg'
  obtain ⟨_, ⟨rfl, _⟩ | ⟨g1, c1, cur1, rfl, _, hh1, _⟩⟩ := h
  · simp [Value.ownBlock] at hg
  obtain ⟨_, ⟨rfl, _⟩ | ⟨g2, c2, cur2, rfl, _, hh2, _⟩⟩ := h'
  · simp [Value.ownBlock] at hg'
  simp [Value.ownBlock] at hg hg'
  subst hg hg'
  rw [hh1] at hh2
  simp at hh2
  exact he hh2.2

/-- A map's block is no row's. -/
theorem row_map {w : World} {base n s b k : Nat} {e : TypeId} {v : Value} {xs : List Value} {D : DataW Unit} {R : Value → Option (DataW Unit × List MemPlace)} (h : w.ownsRow base e s v n xs) (hm : w.ownsMap Try.prog 9 R b k D) : some b ≠ v.ownBlock := by
  intro hg
  obtain ⟨_, ⟨rfl, _⟩ | ⟨g1, c1, cur1, rfl, _, hh1, _⟩⟩ := h
  · simp [Value.ownBlock] at hg
  simp [Value.ownBlock] at hg
  subst hg
  obtain ⟨es, cl, hb, _⟩ := hm
  rw [hh1] at hb
  cases hb

theorem GI.skip {W wr : World} {c : Nat → Nat} {key : Nat → ByteArray} {q : Nat → Nat} {i : Nat} {gv : Value} (h : GI W c key q i gv wr) (hc : c i = 0) (o : Obj) : GI W c key q (i + 1) gv (wr.alloc o) := by
  have h1 : isL c key i = false := by simp [isL, hc]
  have h2 : ∀ f, inG c key f i = false := fun f => by simp [inG, hc]
  obtain ⟨D, hD, hM⟩ := h.map
  obtain ⟨lv, r1, r2, r3⟩ := h.row
  refine ⟨h.bel.alloc (by have := h.sz; omega) o, Nat.le_trans h.sz (by simp), ⟨D, (hD.alloc o).mono (by omega), hM.same h1⟩, ⟨lv, ?_, ?_, ?_⟩⟩
  · rw [Lf_no h1]; exact r1.alloc o
  · intro f hf
    rw [Lf_no h1] at hf
    unfold lnv
    rw [Ln_no (h2 f)]
    exact (r2 f hf).alloc o
  · intro f f' hf hf'
    rw [Lf_no h1] at hf hf'
    exact r3 f f' hf hf'

theorem lead_of_key {c : Nat → Nat} {key : Nat → ByteArray} {k f : Nat} (hk : c k ≠ 0) (hf : isL c key f = true) (he : key f = key k) : lead c key k = f :=
  leader_key (isL_lead hk) hf (by rw [(lead_spec (key := key) k hk).2.2.1, he])

/-- The line's key has come before. -/
theorem GI.old {W wr : World} {c : Nat → Nat} {key : Nat → ByteArray} {q : Nat → Nat} {k m g f : Nat} {sa : Option Addr} {sc : Nat} (h : GI W c key q k (.slice sa m sc) wr) (hm : m = (Lf c key k).length) (hc : c k ≠ 0) (hg : (Lf c key k)[g]? = some f) (hf : key f = key k) :
    ∃ gb la ln lc xs, sa = some ⟨gb, 0, none⟩ ∧ g < m ∧ wr.cell? ⟨gb, g * 3, none⟩ = some (.slice (some ⟨la, 0, none⟩) ln lc) ∧ wr.ownsRow (W.heap.size + 1) 3 1 (.slice (some ⟨la, 0, none⟩) ln lc) ln xs ∧ ln ≤ k ∧ gb < wr.heap.size ∧
      ∀ (o1 o2 : Obj) (v' : Value) (w3 : World), w3.ownsRow (W.heap.size + 1) 3 1 v' (ln + 1) (xs ++ [.int .i64 k]) → ((wr.alloc o1).alloc o2).grownBy w3 (some la) → (v'.ownBlock = some la ∨ v'.ownBlock = some ((wr.alloc o1).alloc o2).heap.size) →
        w3.cell? ⟨gb, g * 3, none⟩ = some (.slice (some ⟨la, 0, none⟩) ln lc) ∧ w3.frozen? ⟨gb, g * 3, none⟩ = false ∧ GI W c key q (k + 1) (.slice sa m sc) (w3.setCell ⟨gb, g * 3, none⟩ v') := by
  obtain ⟨D, hD, hM⟩ := h.map
  obtain ⟨lv, r1, r2, r3⟩ := h.row
  have hfm : f ∈ Lf c key k := List.mem_of_getElem? hg
  have hfL : isL c key f = true := isL_iff.2 (mem_Lf.1 hfm).2
  have hld : lead c key k = f := lead_of_key hc hfL hf
  have hfk : f < k := (mem_Lf.1 hfm).1
  have hiL : isL c key k = false := by
    cases e : isL c key k with
    | false => rfl
    | true => have := (isL_iff.1 e).2; omega
  have hgm : g < m := by rw [hm]; exact (List.getElem?_eq_some_iff.1 hg).1
  have hlnp : 0 < (Ln c key f k).length := by
    have : f ∈ Ln c key f k := mem_Ln.2 ⟨hfk, (isL_iff.1 hfL).1, (isL_iff.1 hfL).2⟩
    exact List.length_pos_of_mem this
  rw [← hm] at r1
  obtain ⟨gb, gcap, egv, hgb1, hgb2⟩ := r1.form (by omega)
  simp at egv
  obtain ⟨rfl, rfl⟩ := egv
  obtain ⟨la, lc, elv, hla1, hla2⟩ := (r2 f hfm).form hlnp
  have rl := r2 f hfm
  rw [elv] at rl
  obtain ⟨g0, g1, g2⟩ := rowOf_get lv q key hg
  have hcell : wr.cell? ⟨gb, g * 3, none⟩ = some (.slice (some ⟨la, 0, none⟩) (Ln c key f k).length lc) := by
    rw [r1.cellAt (g * 3) (by omega), g0, elv]
  have hne : gb ≠ la := by
    intro e
    exact rows_apart r1 rl (by decide) (g := gb) rfl (by rw [e]; rfl)
  refine ⟨gb, la, (Ln c key f k).length, lc, lnv c key f k, rfl, hgm, hcell, rl, Ln_len f k, hgb2, ?_⟩
  intro o1 o2 v' w3 hown hgrow hat
  have hbx : Below wr.heap.size wr ((wr.alloc o1).alloc o2) := ((Below.refl _ _).alloc (Nat.le_refl _) _).alloc (by simp) _
  have hblk : ∀ b, b < wr.heap.size → b ≠ la → w3.heap[b]? = wr.heap[b]? := fun b h1 h2 => by
    rw [hgrow.block b (by simp; omega) (by intro e; cases e; exact h2 rfl), hbx.block b h1]
  have hgl : wr.grownBy w3 (some la) := ⟨hgrow.os, hgrow.tape, hgrow.output, Nat.le_trans (by simp; omega) hgrow.size, fun b h1 h2 => hblk b h1 (by intro e; subst e; exact h2 rfl)⟩
  have c3 : w3.cell? ⟨gb, g * 3, none⟩ = some (.slice (some ⟨la, 0, none⟩) (Ln c key f k).length lc) := by
    rw [World.cell?_of_block (w := wr) (a := ⟨gb, g * 3, none⟩) (hblk gb hgb2 hne)]; exact hcell
  have f3 : w3.frozen? ⟨gb, g * 3, none⟩ = false := by
    rw [World.frozen?_of_block (w := wr) (a := ⟨gb, g * 3, none⟩) (hblk gb hgb2 hne)]; exact r1.frozenAt _
  have hs : w3.grownBy (w3.setCell ⟨gb, g * 3, none⟩ v') (some gb) :=
    ⟨rfl, rfl, rfl, by simp [World.setCell], fun b _ hb => Below.heap_setCell _ _ _ _ (by intro e; exact hb (by rw [e]))⟩
  have r1' : w3.ownsRow (W.heap.size + 1) 41 3 (.slice (some ⟨gb, 0, none⟩) m sc) m (rowOf lv q key (Lf c key k)) :=
    r1.kept hgl (.inr (by simp [Value.ownBlock]; exact hne))
  refine ⟨c3, f3, ⟨?_, ?_, ⟨D, ?_, hM.same hiL⟩, ⟨fun x => if x = f then v' else lv x, ?_, ?_, ?_⟩⟩⟩
  · exact (h.bel.grown hgl (by have := h.sz; omega) (fun j hj => by cases hj; omega)).grown hs (by have := hgl.size; have := h.sz; omega) (fun j hj => by cases hj; omega)
  · exact Nat.le_trans h.sz (Nat.le_trans hgl.size hs.size)
  · exact ((hD.kept hgl (by intro e; cases e; exact row_map rl hD rfl)).kept hs (by intro e; cases e; exact row_map r1 hD rfl)).mono (by omega)
  · rw [Lf_no hiL, rowOf_set lv q key (Lf_nodup k) hg v', ← hm]
    exact (r1'.stored (g * 3) v').1
  · intro f' hf'
    rw [Lf_no hiL] at hf'
    by_cases e : f' = f
    · subst e
      have hin : inG c key f' k = true := inG_iff.2 ⟨hc, hld⟩
      unfold lnv
      simp only [if_true]
      rw [Ln_yes hin]
      have := hown.kept hs (by
        cases e : v'.ownBlock with
        | none => exact .inl rfl
        | some b => exact .inr (by
            rw [e] at hat
            intro e'
            cases e'
            rcases hat with h1 | h1
            · cases h1; exact hne rfl
            · simp at h1; omega))
      simpa [lnv] using this
    · have hin : inG c key f' k = false := by
        cases e1 : inG c key f' k with
        | false => rfl
        | true => exact absurd ((inG_iff.1 e1).2.symm.trans hld) e
      unfold lnv
      dsimp only
      rw [if_neg e, Ln_no hin]
      have hr := r2 f' hf'
      have hd := r3 f' f hf' hfm e
      refine (hr.kept hgl (.inr ?_)).kept hs ?_
      · intro e'; exact hd (by rw [e', elv]; rfl)
      · cases e1 : (lv f').ownBlock with
        | none => exact .inl rfl
        | some b => exact .inr (by intro e'; cases e'; exact rows_apart hr r1 (by decide) e1 rfl)
  · intro f1 f2 h1 h2 hne12
    rw [Lf_no hiL] at h1 h2
    have hold : ∀ x, x ∈ Lf c key k → ∀ b, (lv x).ownBlock = some b → b < wr.heap.size := fun x hx b hb => ((r2 x hx).lt b hb).2
    have hnew : ∀ x, x ∈ Lf c key k → x ≠ f → (lv x).ownBlock ≠ v'.ownBlock := fun x hx hxf e => by
      rcases hat with h3 | h3
      · exact r3 x f hx hfm hxf (by rw [e, h3, elv]; rfl)
      · have := hold x hx _ (e.trans h3)
        simp at this
        omega
    dsimp only
    by_cases e1 : f1 = f
    · subst e1
      rw [if_pos rfl, if_neg (Ne.symm hne12)]
      exact Ne.symm (hnew f2 h2 (Ne.symm hne12))
    · by_cases e2 : f2 = f
      · subst e2
        rw [if_pos rfl, if_neg hne12]
        exact hnew f1 h1 hne12
      · rw [if_neg e1, if_neg e2]
        exact r3 f1 f2 h1 h2 hne12

/-- A key that has not come before. -/
theorem isL_new {c : Nat → Nat} {key : Nat → ByteArray} {k : Nat} (hc : c k ≠ 0) (hno : ¬ ∃ g f : Nat, (Lf c key k)[g]? = some f ∧ key f = key k) : isL c key k = true := by
  have h1 := lead_spec (key := key) k hc
  rcases Nat.lt_or_ge (lead c key k) k with h | h
  · exfalso
    have hm : lead c key k ∈ Lf c key k := mem_Lf.2 ⟨h, h1.2.1, lead_lead hc⟩
    obtain ⟨g, hg⟩ := List.getElem?_of_mem hm
    exact hno ⟨g, _, hg, h1.2.2.1⟩
  · exact isL_iff.2 ⟨hc, by omega⟩

theorem GI.new {W wr : World} {c : Nat → Nat} {key : Nat → ByteArray} {q : Nat → Nat} {k m : Nat} {sa : Option Addr} {sc : Nat} {D : DataW Unit} (h : GI W c key q k (.slice sa m sc) wr) (hm : m = (Lf c key k).length) (hc : c k ≠ 0) (hno : ¬ ∃ g f : Nat, (Lf c key k)[g]? = some f ∧ key f = key k)
    (hD : wr.ownsMap Try.prog 9 (plainElem Try.prog 3) W.heap.size k D) (hM : MapOK c key D k) (o1 : Obj) (w2 : World) (hg2 : (wr.alloc o1).grownBy w2 (some W.heap.size)) (hD2 : w2.ownsMap Try.prog 9 (plainElem Try.prog 3) W.heap.size (k + 1) (D.put (.string (key k).data.toList) (.lit (.int .i64 m)))) :
    ∃ xs, w2.ownsRow (W.heap.size + 1) 41 3 (.slice sa m sc) m xs ∧ (∀ b, (Value.slice sa m sc).ownBlock = some b → W.heap.size + 1 ≤ b ∧ b < wr.heap.size) ∧
      ∀ (o4 : Obj) (gb' cap' : Nat) (w4 : World), w4.ownsRow (W.heap.size + 1) 41 3 (.slice (some ⟨gb', 0, none⟩) (m + 1) cap') (m + 1) (xs ++ [.slice (some ⟨w2.heap.size, 0, none⟩) 1 1, .slice (some ⟨q k, 0, none⟩) 1 1, .string (key k)]) →
        ((w2.alloc (.cells #[.int .i64 k] 3)).alloc o4).drew.grownBy w4 (Value.slice sa m sc).ownBlock → GI W c key q (k + 1) (.slice (some ⟨gb', 0, none⟩) (m + 1) cap') w4 := by
  obtain ⟨lv, r1, r2, r3⟩ := h.row
  rw [← hm] at r1
  have hiL := isL_new hc hno
  have hgw : wr.grownBy w2 (some W.heap.size) := ⟨hg2.os, hg2.tape, hg2.output, Nat.le_trans (by simp) hg2.size, fun b h1 h2 => by
    rw [hg2.block b (by simp; omega) h2, Below.heap_alloc _ _ _ h1]⟩
  have r1' : w2.ownsRow (W.heap.size + 1) 41 3 (.slice sa m sc) m (rowOf lv q key (Lf c key k)) := r1.kept hgw (.inr (Ne.symm (row_map r1 hD)))
  refine ⟨_, r1', r1.lt, ?_⟩
  intro o4 gb' cap' w4 hown hgrow
  have hgr4 : w2.grownBy w4 (Value.slice sa m sc).ownBlock := ⟨hgrow.os, hgrow.tape, hgrow.output, Nat.le_trans (by simp; omega) hgrow.size, fun b h1 h2 => by
    rw [hgrow.block b (by simp; omega) h2]
    show ((w2.alloc _).alloc _).heap[b]? = _
    rw [Below.heap_alloc _ _ _ (by simp; omega), Below.heap_alloc _ _ _ h1]⟩
  have hnk : k ∉ Lf c key k := fun hx => by have := (mem_Lf.1 hx).1; omega
  have hnew : w4.ownsRow (W.heap.size + 1) 3 1 (.slice (some ⟨w2.heap.size, 0, none⟩) 1 1) 1 [.int .i64 k] := by
    refine ⟨rfl, .inr ⟨w2.heap.size, 1, #[.int .i64 k], rfl, Nat.le_trans h.sz hgw.size, ?_, Nat.le_refl _, by unfold maxLen; omega, rfl, rfl⟩⟩
    have hne : some w2.heap.size ≠ (Value.slice sa m sc).ownBlock := fun e => by have := (r1'.lt _ e.symm).2; omega
    rw [hgrow.block w2.heap.size (by simp; omega) hne]
    show ((w2.alloc _).alloc _).heap[w2.heap.size]? = _
    rw [Below.heap_alloc _ _ _ (by simp), heap_alloc_new]
  refine ⟨?_, ?_, ⟨D.put (.string (key k).data.toList) (.lit (.int .i64 m)), ?_, ?_⟩, ⟨fun x => if x = k then .slice (some ⟨w2.heap.size, 0, none⟩) 1 1 else lv x, ?_, ?_, ?_⟩⟩
  · exact (h.bel.grown hgw (by have := h.sz; omega) (fun j hj => by cases hj; omega)).grown hgr4 (by have := hgw.size; have := h.sz; omega) (fun j hj => by have := (r1.lt j hj).1; omega)
  · exact Nat.le_trans h.sz (Nat.le_trans hgw.size hgr4.size)
  · exact hD2.kept hgr4 (row_map r1' hD2)
  · rw [hm]; exact hM.put hiL hD.isMap
  · rw [Lf_yes hiL, rowOf_append]
    have e1 : rowOf (fun x => if x = k then .slice (some ⟨w2.heap.size, 0, none⟩) 1 1 else lv x) q key (Lf c key k) = rowOf lv q key (Lf c key k) :=
      rowOf_congr q key (fun x hx => if_neg (by intro e; subst e; exact hnk hx))
    rw [e1]
    simpa [rowOf, ← hm] using hown
  · intro f hf
    rw [Lf_yes hiL] at hf
    by_cases e : f = k
    · subst e
      have hin : inG c key f f = true := inG_iff.2 ⟨hc, (isL_iff.1 hiL).2⟩
      unfold lnv
      dsimp only
      rw [if_pos rfl, Ln_yes hin, Ln_self (Nat.le_refl _)]
      exact hnew
    · have hf' : f ∈ Lf c key k := by
        rcases List.mem_append.1 hf with h1 | h1
        · exact h1
        · simp at h1; exact absurd h1 e
      have hin : inG c key f k = false := by
        cases e1 : inG c key f k with
        | false => rfl
        | true => exact absurd ((inG_iff.1 e1).2.symm.trans (isL_iff.1 hiL).2) e
      unfold lnv
      dsimp only
      rw [if_neg e, Ln_no hin]
      have hr := r2 f hf'
      refine (hr.kept hgw (.inr (Ne.symm (row_map hr hD)))).kept hgr4 ?_
      cases e1 : (lv f).ownBlock with
      | none => exact .inl rfl
      | some b => exact .inr (fun e2 => rows_apart hr r1 (by decide) e1 e2.symm)
  · intro f1 f2 h1 h2 hne12
    rw [Lf_yes hiL] at h1 h2
    have hold : ∀ x, x ∈ Lf c key k → (lv x).ownBlock ≠ some w2.heap.size := fun x hx e => by
      have := ((r2 x hx).lt _ e).2
      have := hgw.size
      omega
    have hmem : ∀ x, x ∈ Lf c key k ++ [k] → x ≠ k → x ∈ Lf c key k := fun x hx hxk => by
      rcases List.mem_append.1 hx with h1 | h1
      · exact h1
      · simp at h1; exact absurd h1 hxk
    dsimp only
    by_cases e1 : f1 = k
    · subst e1
      rw [if_pos rfl, if_neg (Ne.symm hne12)]
      exact Ne.symm (hold f2 (hmem f2 h2 (Ne.symm hne12)))
    · by_cases e2 : f2 = k
      · subst e2
        rw [if_pos rfl, if_neg hne12]
        exact hold f1 (hmem f1 h1 hne12)
      · rw [if_neg e1, if_neg e2]
        exact r3 f1 f2 (hmem f1 h1 e1) (hmem f2 h2 e2) hne12

end Go.Proofs.Qxb6616265a
