/-
  The laws' slice of lines: what lies in memory, and how one more line turns it. No walk.
-/
import Derived.Test.Qxb6616265aSmall
import Derived.Test.Qxb6616265aInv
namespace Go.Proofs.Qxb6616265a
open Go.RowKit Go.Maps

theorem Try.info35 : (Try.prog.info? 35).map (fun i => (i.zero, i.size, i.bytes)) = some (some (.agg #[.string ⟨#[]⟩, .pointer none, .pointer none]), 3, 32) := by kernel_rfl

/-- The cells of the lines' row. -/
def lsRow (p : Nat → Nat) (k : Nat) : List Value := (List.range k).flatMap (fun j => [.string ⟨#[]⟩, .pointer none, .pointer (some ⟨p j, 0, none⟩)])

theorem lsRow_succ (p : Nat → Nat) (k : Nat) : lsRow p (k + 1) = lsRow p k ++ [.string ⟨#[]⟩, .pointer none, .pointer (some ⟨p k, 0, none⟩)] := by simp [lsRow, List.range_succ]

theorem lsRow_congr {p p' : Nat → Nat} : ∀ (k : Nat), (∀ j, j < k → p j = p' j) → lsRow p k = lsRow p' k
  | 0, _ => rfl
  | k + 1, h => by rw [lsRow_succ, lsRow_succ, lsRow_congr k (fun j hj => h j (by omega)), h k (by omega)]

theorem lsRow_length (p : Nat → Nat) : ∀ k : Nat, (lsRow p k).length = k * 3
  | 0 => rfl
  | k + 1 => by rw [lsRow_succ, List.length_append, lsRow_length p k]; simp; omega

theorem lsRow_get (p : Nat → Nat) : ∀ (k j : Nat), j < k → (lsRow p k)[j * 3]? = some (.string ⟨#[]⟩) ∧ (lsRow p k)[j * 3 + 1]? = some (.pointer none) ∧ (lsRow p k)[j * 3 + 2]? = some (.pointer (some ⟨p j, 0, none⟩))
  | 0, j, h => by omega
  | k + 1, j, h => by
    rw [lsRow_succ]
    by_cases e : j = k
    · subst e
      have hl := lsRow_length p j
      refine ⟨?_, ?_, ?_⟩
      · rw [List.getElem?_append_right (by omega), hl]; simp
      · rw [List.getElem?_append_right (by omega), hl, show j * 3 + 1 - j * 3 = 1 by omega]; rfl
      · rw [List.getElem?_append_right (by omega), hl, show j * 3 + 2 - j * 3 = 2 by omega]; rfl
    · have hl := lsRow_length p k
      obtain ⟨h1, h2, h3⟩ := lsRow_get p k j (by omega)
      exact ⟨by rw [List.getElem?_append_left (by omega)]; exact h1, by rw [List.getElem?_append_left (by omega)]; exact h2, by rw [List.getElem?_append_left (by omega)]; exact h3⟩

/-- The lines laid so far: the slice v of k lines, each with its blocks. -/
structure M5 (B : Nat) (c : Nat → Nat) (key : Nat → ByteArray) (tg : Nat → Int) (p q r : Nat → Nat) (k : Nat) (v : Value) (wr : World) : Prop where
  ls : wr.ownsRow B 35 3 v k (lsRow p k)
  wg : ∀ j, j < k → WG wr B (p j) (q j) (r j) (c j) (key j) (tg j)

theorem below_grownBy {w w' : World} (h : Below w.heap.size w w') : w.grownBy w' none := ⟨h.os, h.tape, h.output, h.size, fun k hk _ => h.block k hk⟩

theorem row_below {w w' : World} {base n s : Nat} {e : TypeId} {v : Value} {xs : List Value} (h : w.ownsRow base e s v n xs) (hb : Below w.heap.size w w') : w'.ownsRow base e s v n xs :=
  h.kept (below_grownBy hb) (by
    cases v.ownBlock with
    | none => exact .inl rfl
    | some b => exact .inr (by simp))

theorem blk_lt {w : World} {b : Nat} {o : Obj} (h : w.heap[b]? = some o) : b < w.heap.size := (Array.getElem?_eq_some_iff.1 h).1

/-- The line's blocks stand while a row of lines is written. -/
theorem WG.kept {w w' : World} {B p q r c n s : Nat} {key : ByteArray} {tag : Int} {v : Value} {xs : List Value} (h : WG w B p q r c key tag) (hr : w.ownsRow B 35 s v n xs) (hg : w.grownBy w' v.ownBlock) : WG w' B p q r c key tag := by
  have hne : ∀ (b : Nat) (cs : Array Value) (t : TypeId) (fr : Nat × Nat), w.heap[b]? = some (.cells cs t fr) → t ≠ 35 → w'.heap[b]? = w.heap[b]? := fun b cs t fr hb ht => by
    refine hg.block b (blk_lt hb) ?_
    intro e
    obtain ⟨_, ⟨rfl, _⟩ | ⟨g, cap, cur, rfl, _, hh, _⟩⟩ := hr
    · simp [Value.ownBlock] at e
    · simp [Value.ownBlock] at e
      subst e
      rw [hh] at hb
      simp at hb
      exact ht hb.2.1.symm
  obtain ⟨ga, gc, hp⟩ := h.hp
  exact ⟨⟨ga, gc, by rw [hne _ _ _ _ hp (by decide)]; exact hp⟩, by rw [hne _ _ _ _ h.hq (by decide)]; exact h.hq, by rw [hne _ _ _ _ h.hr (by decide)]; exact h.hr, h.bp, h.bq, h.br⟩

theorem WG.below {w w' : World} {B p q r c : Nat} {key : ByteArray} {tag : Int} (h : WG w B p q r c key tag) (hb : Below w.heap.size w w') : WG w' B p q r c key tag := by
  obtain ⟨ga, gc, hp⟩ := h.hp
  exact ⟨⟨ga, gc, by rw [hb.block _ (blk_lt hp)]; exact hp⟩, by rw [hb.block _ (blk_lt h.hq)]; exact h.hq, by rw [hb.block _ (blk_lt h.hr)]; exact h.hr, h.bp, h.bq, h.br⟩

theorem WG.base {w : World} {B B' p q r c : Nat} {key : ByteArray} {tag : Int} (h : WG w B p q r c key tag) (hB : B' ≤ B) : WG w B' p q r c key tag :=
  { h with bp := Nat.le_trans hB h.bp
           bq := Nat.le_trans hB h.bq
           br := Nat.le_trans hB h.br }

theorem M5.step {B : Nat} {c : Nat → Nat} {key : Nat → ByteArray} {tg : Nat → Int} {p q r : Nat → Nat} {k p5 q5 r5 : Nat} {v v' : Value} {wr w5 w6 : World} {o : Obj} (h : M5 B c key tg p q r k v wr) (hB : B ≤ wr.heap.size) (hb : Below wr.heap.size wr w5) (hw : WG w5 wr.heap.size p5 q5 r5 (c k) (key k) (tg k))
    (hown : w6.ownsRow B 35 3 v' (k + 1) (lsRow p k ++ [.string ⟨#[]⟩, .pointer none, .pointer (some ⟨p5, 0, none⟩)])) (hg : (w5.alloc o).grownBy w6 v.ownBlock) :
    ∃ p' q' r', M5 B c key tg p' q' r' (k + 1) v' w6 := by
  have hr5 := row_below h.ls hb
  have hb6 : Below w5.heap.size w5 (w5.alloc o) := (Below.refl _ _).alloc (Nat.le_refl _) _
  have hr6 := row_below hr5 hb6
  refine ⟨fun j => if j = k then p5 else p j, fun j => if j = k then q5 else q j, fun j => if j = k then r5 else r j, ?_, fun j hj => ?_⟩
  · rw [lsRow_succ, lsRow_congr (p := fun j => if j = k then p5 else p j) (p' := p) k (fun j hj => if_neg (by omega))]
    simpa using hown
  · by_cases e : j = k
    · subst e
      simp only [if_true]
      exact ((hw.base hB).below hb6).kept hr6 hg
    · simp only [if_neg e]
      exact (((h.wg j (by omega)).below hb).below hb6).kept hr6 hg

/-- A line as groupLines reads it. -/
theorem M5.line {B : Nat} {c : Nat → Nat} {key : Nat → ByteArray} {tg : Nat → Int} {p q r : Nat → Nat} {k b cap : Nat} {wr : World} (h : M5 B c key tg p q r k (.slice (some ⟨b, 0, none⟩) k cap) wr) (hks : ∀ j, j < k → (key j).size ≤ maxLen) (j : Nat) (hj : j < k) : LineAt wr b j (p j) (q j) (c j) (key j) := by
  obtain ⟨h1, h2, h3⟩ := lsRow_get p k j hj
  have w := h.wg j hj
  obtain ⟨ga, gc, hp⟩ := w.hp
  have hc : ∀ o, wr.cell? ⟨p j, o, none⟩ = (#[.slice ga (c j) gc, .slice (some ⟨q j, 0, none⟩) 1 1, .string (key j)] : Array Value)[o]? := fun o => by
    have := cell_of_row wr (p j) o _ _ _ hp
    simpa using this
  have hlt := (h.ls.lt b rfl).2
  refine ⟨⟨_, by rw [h.ls.cellAt (j * 3) (by omega)]; exact h1⟩, by rw [h.ls.cellAt (j * 3 + 1) (by omega)]; exact h2, by rw [h.ls.cellAt (j * 3 + 2) (by omega)]; exact h3, ⟨ga, gc, by rw [hc]; rfl⟩, by rw [hc]; rfl, by rw [hc]; rfl, hlt, blk_lt hp, hks j hj⟩

/-- What lies behind a line's patterns. -/
theorem WG.pats {w : World} {B p q r c : Nat} {key : ByteArray} {tag : Int} (h : WG w B p q r c key tag) : w.cell? ⟨q, 0, none⟩ = some (.slice (some ⟨r, 0, none⟩) 1 1) ∧ w.cell? ⟨r, 1, none⟩ = some (.int .u32 tag) := by
  have h1 := cell_of_row w q 0 _ _ _ h.hq
  have h2 := cell_of_row w r 1 _ _ _ h.hr
  exact ⟨by simpa using h1, by simpa using h2⟩

end Go.Proofs.Qxb6616265a
