/-
  THE PLAIN PART of the second law: prefixes and sums.
-/
import Derived.Test.Qxb6616265aPlain
namespace Go.Proofs.Qxb6616265a

variable {c : Nat → Nat} {key : Nat → ByteArray}

/-- How many of the first k lines write a glob. -/
def wcount (c : Nat → Nat) (k : Nat) : Nat := ((List.range k).filter (fun j => !(c j == 0))).length

theorem wcount_zero : wcount c 0 = 0 := rfl
theorem wcount_yes {k : Nat} (h : c k ≠ 0) : wcount c (k + 1) = wcount c k + 1 := by
  simp [wcount, List.range_succ, List.filter_append, h]
theorem wcount_no {k : Nat} (h : c k = 0) : wcount c (k + 1) = wcount c k := by
  simp [wcount, List.range_succ, List.filter_append, h]
theorem wcount_le (k : Nat) : wcount c k ≤ k := by
  have := List.length_filter_le (fun j => !(c j == 0)) (List.range k)
  simpa [wcount] using this

/-- The lines of the first g groups. -/
def gsum (c : Nat → Nat) (key : Nat → ByteArray) (n g : Nat) : Nat := (((Lf c key n).take g).map (fun f => (Ln c key f n).length)).sum

theorem gsum_zero (n : Nat) : gsum c key n 0 = 0 := rfl
theorem gsum_succ {n g f : Nat} (h : (Lf c key n)[g]? = some f) : gsum c key n (g + 1) = gsum c key n g + (Ln c key f n).length := by
  unfold gsum
  rw [List.take_add_one, h]
  simp

theorem sum_bump {f0 : Nat} (a b : Nat → Nat) : ∀ (L : List Nat), L.Nodup → f0 ∈ L → (∀ f ∈ L, f ≠ f0 → b f = a f) → b f0 = a f0 + 1 → (L.map b).sum = (L.map a).sum + 1
  | [], _, h, _, _ => by simp at h
  | x :: L, hn, h, ho, h0 => by
    obtain ⟨hx, hL⟩ := List.nodup_cons.1 hn
    by_cases e : x = f0
    · subst e
      have : L.map b = L.map a := List.map_congr_left (fun f hf => ho f (by simp [hf]) (by intro e'; subst e'; exact hx hf))
      simp [this, h0]
      omega
    · have hm : f0 ∈ L := by
        rcases List.mem_cons.1 h with h | h
        · exact absurd h.symm e
        · exact h
      have ih := sum_bump a b L hL hm (fun f hf => ho f (by simp [hf])) h0
      simp [ih, ho x (by simp) e]
      omega

theorem gsum_all : ∀ (n : Nat), ((Lf c key n).map (fun f => (Ln c key f n).length)).sum = wcount c n
  | 0 => rfl
  | n + 1 => by
    have ih := gsum_all n
    by_cases hz : c n = 0
    · have h1 : isL c key n = false := by simp [isL, hz]
      have h2 : ∀ f, inG c key f n = false := fun f => by simp [inG, hz]
      rw [Lf_no h1, wcount_no hz, ← ih]
      congr 1
      exact List.map_congr_left (fun f _ => by rw [Ln_no (h2 f)])
    · rw [wcount_yes hz, ← ih]
      by_cases hL : isL c key n = true
      · have hld := (isL_iff.1 hL).2
        rw [Lf_yes hL, List.map_append, List.sum_append]
        have e1 : (Lf c key n).map (fun f => (Ln c key f (n + 1)).length) = (Lf c key n).map (fun f => (Ln c key f n).length) :=
          List.map_congr_left (fun f hf => by
            have hin : inG c key f n = false := by
              cases e : inG c key f n with
              | false => rfl
              | true =>
                have h1 := (inG_iff.1 e).2
                have h2 := (mem_Lf.1 hf).1
                omega
            rw [Ln_no hin])
        have e2 : (Ln c key n (n + 1)).length = 1 := by rw [Ln_yes (inG_iff.2 ⟨hz, hld⟩), Ln_self (Nat.le_refl _)]; rfl
        rw [e1]
        simp [e2]
      · have hL' : isL c key n = false := by simpa using hL
        rw [Lf_no hL']
        have hlt : lead c key n < n := by
          have h1 := (lead_spec (key := key) n hz).1
          have h2 : lead c key n ≠ n := fun e => hL (isL_iff.2 ⟨hz, e⟩)
          omega
        have hm : lead c key n ∈ Lf c key n := mem_Lf.2 ⟨hlt, (lead_spec n hz).2.1, lead_lead hz⟩
        refine sum_bump (f0 := lead c key n) _ _ _ (Lf_nodup n) hm (fun f _ hf => ?_) ?_
        · have hin : inG c key f n = false := by
            cases e : inG c key f n with
            | false => rfl
            | true => exact absurd (inG_iff.1 e).2.symm hf
          rw [Ln_no hin]
        · rw [Ln_yes (inG_iff.2 ⟨hz, rfl⟩)]
          simp

theorem gsum_end (n : Nat) : gsum c key n (Lf c key n).length = wcount c n := by
  unfold gsum
  rw [List.take_length]
  exact gsum_all n

theorem gsum_le {n g : Nat} : gsum c key n g ≤ wcount c n := by
  rw [← gsum_all (key := key) n]
  unfold gsum
  have h := List.take_append_drop g (Lf c key n)
  have : ((Lf c key n).map (fun f => (Ln c key f n).length)).sum = (((Lf c key n).take g).map (fun f => (Ln c key f n).length)).sum + (((Lf c key n).drop g).map (fun f => (Ln c key f n).length)).sum := by
    rw [← List.sum_append, ← List.map_append, h]
  omega

/-- A filtered range and a shorter one: below the shorter's length they agree; from there on the values are past the cut. -/
theorem filter_cut (P : Nat → Bool) {m n g x : Nat} (h : m ≤ n) (hx : ((List.range n).filter P)[g]? = some x) :
    (g < ((List.range m).filter P).length ↔ x < m) ∧ (g < ((List.range m).filter P).length → ((List.range m).filter P)[g]? = some x) := by
  obtain ⟨t, h1, h2⟩ := filter_prefix P h
  rw [h1] at hx
  by_cases hg : g < ((List.range m).filter P).length
  · rw [List.getElem?_append_left hg] at hx
    have hm := (List.mem_filter.1 (List.mem_of_getElem? hx)).1
    simp at hm
    exact ⟨⟨fun _ => hm, fun _ => hg⟩, fun _ => hx⟩
  · rw [List.getElem?_append_right (by omega)] at hx
    have := h2 x (List.mem_of_getElem? hx)
    exact ⟨⟨fun h => absurd h hg, fun h => by omega⟩, fun h => absurd h hg⟩

theorem Lf_cut {cut n g f : Nat} (h : cut ≤ n) (hx : (Lf c key n)[g]? = some f) : (g < (Lf c key cut).length ↔ f < cut) ∧ (g < (Lf c key cut).length → (Lf c key cut)[g]? = some f) := filter_cut _ h hx
theorem Ln_cut {cut n g f k : Nat} (h : cut ≤ n) (hx : (Ln c key f n)[g]? = some k) : (g < (Ln c key f cut).length ↔ k < cut) ∧ (g < (Ln c key f cut).length → (Ln c key f cut)[g]? = some k) := filter_cut _ h hx

theorem Ln_len_mono {f m n : Nat} (h : m ≤ n) : (Ln c key f m).length ≤ (Ln c key f n).length := by
  obtain ⟨t, h1, _⟩ := filter_prefix (inG c key f) h
  unfold Ln
  rw [h1]
  simp

/-- The group of leader f has a line before the cut just if f lies before it. -/
theorem Ln_pos {f cut : Nat} (hf : isL c key f = true) : 0 < (Ln c key f cut).length ↔ f < cut := by
  constructor
  · intro h
    rcases Nat.lt_or_ge f cut with h1 | h1
    · exact h1
    · rw [Ln_self h1] at h
      simp at h
  · intro h
    exact List.length_pos_of_mem (mem_Ln.2 ⟨h, (isL_iff.1 hf).1, (isL_iff.1 hf).2⟩)

end Go.Proofs.Qxb6616265a
