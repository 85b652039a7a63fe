/-
  What the laws read behind groupLines: the groups' row, their lines, their patterns. No walk.
-/
import Derived.Test.Qxb6616265aLines
namespace Go.Proofs.Qxb6616265a
open Go.RowKit Go.Maps

/-- What can be read of the groups of the first n lines. -/
structure GFin (c : Nat → Nat) (key : Nat → ByteArray) (q : Nat → Nat) (n : Nat) (ga : Option Addr) (lv : Nat → Nat × Nat) (W : World) : Prop where
  grp : ∀ g f, (Lf c key n)[g]? = some f → ∃ gb, ga = some ⟨gb, 0, none⟩ ∧ W.cell? ⟨gb, g * 3, none⟩ = some (.slice (some ⟨(lv f).1, 0, none⟩) (Ln c key f n).length (lv f).2) ∧ W.cell? ⟨gb, g * 3 + 1, none⟩ = some (.slice (some ⟨q f, 0, none⟩) 1 1) ∧ W.cell? ⟨gb, g * 3 + 2, none⟩ = some (.string (key f))
  lns : ∀ f, f ∈ Lf c key n → (Ln c key f n).length ≤ (lv f).2 ∧ ∀ (j k : Nat), (Ln c key f n)[j]? = some k → W.cell? ⟨(lv f).1, j, none⟩ = some (.int .i64 (k : Int))

theorem GFin.below {c : Nat → Nat} {key : Nat → ByteArray} {q : Nat → Nat} {n : Nat} {ga : Option Addr} {lv : Nat → Nat × Nat} {W W' : World} (h : GFin c key q n ga lv W) (hb : Below W.heap.size W W') : GFin c key q n ga lv W' :=
  ⟨fun g f hg => by
    obtain ⟨gb, h1, h2, h3, h4⟩ := h.grp g f hg
    exact ⟨gb, h1, cell_later hb h2, cell_later hb h3, cell_later hb h4⟩,
  fun f hf => ⟨(h.lns f hf).1, fun j k hj => cell_later hb ((h.lns f hf).2 j k hj)⟩⟩

theorem GI.fin {W wr : World} {c : Nat → Nat} {key : Nat → ByteArray} {q : Nat → Nat} {n : Nat} {ga : Option Addr} {m gc : Nat} (h : GI W c key q n (.slice ga m gc) wr) : m = (Lf c key n).length ∧ m ≤ gc ∧ ∃ lv, GFin c key q n ga lv wr := by
  obtain ⟨lv, r1, r2, _⟩ := h.row
  have hm : m = (Lf c key n).length ∧ m ≤ gc := by
    rcases r1.2 with ⟨e, h0⟩ | ⟨g, cap, cur, e, _, _, hc, _⟩
    · simp at e
      exact ⟨by omega, by omega⟩
    · simp at e
      exact ⟨e.2.1, by omega⟩
  refine ⟨hm.1, hm.2, ?_⟩
  have hpos : ∀ f, f ∈ Lf c key n → 0 < (Ln c key f n).length := fun f hf => by
    obtain ⟨h1, h2, h3⟩ := mem_Lf.1 hf
    exact List.length_pos_of_mem (mem_Ln.2 ⟨h1, h2, h3⟩)
  have hform : ∀ f, f ∈ Lf c key n → ∃ x : Nat × Nat, lv f = .slice (some ⟨x.1, 0, none⟩) (Ln c key f n).length x.2 := fun f hf => by
    obtain ⟨g, cap, e, _⟩ := (r2 f hf).form (hpos f hf)
    exact ⟨(g, cap), e⟩
  have hex : ∃ lv' : Nat → Nat × Nat, ∀ f, f ∈ Lf c key n → lv f = .slice (some ⟨(lv' f).1, 0, none⟩) (Ln c key f n).length (lv' f).2 := by
    refine ⟨fun f => if hf : f ∈ Lf c key n then (hform f hf).choose else (0, 0), fun f hf => ?_⟩
    simp only [dif_pos hf]
    exact (hform f hf).choose_spec
  obtain ⟨lv', hlv⟩ := hex
  refine ⟨lv', fun g f hg => ?_, fun f hf => ?_⟩
  · have hf : f ∈ Lf c key n := List.mem_of_getElem? hg
    have hgl := (List.getElem?_eq_some_iff.1 hg).1
    obtain ⟨gb, cap, e, _⟩ := r1.form (by omega)
    simp at e
    obtain ⟨rfl, _, rfl⟩ := e
    obtain ⟨g0, g1, g2⟩ := rowOf_get lv q key hg
    have hmm := hm.1
    subst hmm
    refine ⟨gb, rfl, ?_, ?_, ?_⟩
    · rw [r1.cellAt (g * 3) (by omega), g0, hlv f hf]
    · rw [r1.cellAt (g * 3 + 1) (by omega), g1]
    · rw [r1.cellAt (g * 3 + 2) (by omega), g2]
  · have hr := r2 f hf
    rw [hlv f hf] at hr
    refine ⟨?_, fun j k hj => ?_⟩
    · rcases hr.2 with ⟨e, _⟩ | ⟨g, cap, cur, e, _, _, hc, _⟩
      · simp at e
      · simp at e
        omega
    · have hlt := (List.getElem?_eq_some_iff.1 hj).1
      rw [hr.cellAt j (by omega)]
      simp [lnv, hj]

/-- The slice of lines, as groupLines takes it; also its first 'cut' lines. -/
theorem M5.call {B : Nat} {c : Nat → Nat} {key : Nat → ByteArray} {tg : Nat → Int} {p q r : Nat → Nat} {k : Nat} {sa : Option Addr} {sc : Nat} {wr : World} (h : M5 B c key tg p q r k (.slice sa k sc) wr) (hks : ∀ j, j < k → (key j).size ≤ maxLen) :
    k ≤ sc ∧ ∃ b, (k = 0 ∨ sa = some ⟨b, 0, none⟩) ∧ ∀ j, j < k → LineAt wr b j (p j) (q j) (c j) (key j) := by
  have hls := h.ls
  rcases hls.2 with ⟨e, h0⟩ | ⟨g, cap, cur, e, _, _, hc, _⟩
  · exact ⟨by omega, 0, .inl h0, fun j hj => by omega⟩
  · simp at e
    obtain ⟨rfl, rfl⟩ := e
    exact ⟨hc, g, .inr rfl, h.line hks⟩

theorem M5.pats {B : Nat} {c : Nat → Nat} {key : Nat → ByteArray} {tg : Nat → Int} {p q r : Nat → Nat} {k : Nat} {v : Value} {wr : World} (h : M5 B c key tg p q r k v wr) {j : Nat} (hj : j < k) : wr.cell? ⟨q j, 0, none⟩ = some (.slice (some ⟨r j, 0, none⟩) 1 1) ∧ wr.cell? ⟨r j, 1, none⟩ = some (.int .u32 (tg j)) := (h.wg j hj).pats

end Go.Proofs.Qxb6616265a
