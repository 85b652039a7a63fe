/-
  THE PLAIN PART of groupLines: leaders, the lists of leaders, the lines of a leader. No Go in sight.
-/
namespace Go.Proofs.Qxb6616265a

/-- The first line that writes a glob under line k's key (k itself where none comes before). -/
def lead (c : Nat → Nat) (key : Nat → ByteArray) (k : Nat) : Nat := ((List.range k).find? (fun f => !(c f == 0) && decide (key f = key k))).getD k

/-- Does line f write a glob, and is it the first of its key? -/
def isL (c : Nat → Nat) (key : Nat → ByteArray) (f : Nat) : Bool := !(c f == 0) && (lead c key f == f)

/-- The leaders below i, in order. -/
def Lf (c : Nat → Nat) (key : Nat → ByteArray) (i : Nat) : List Nat := (List.range i).filter (isL c key)

/-- Does line k write, with leader f? -/
def inG (c : Nat → Nat) (key : Nat → ByteArray) (f k : Nat) : Bool := !(c k == 0) && (lead c key k == f)

/-- The lines below i of leader f. -/
def Ln (c : Nat → Nat) (key : Nat → ByteArray) (f i : Nat) : List Nat := (List.range i).filter (inG c key f)

variable {c : Nat → Nat} {key : Nat → ByteArray}

theorem find_range {P : Nat → Bool} : ∀ {k f : Nat}, (List.range k).find? P = some f → f < k ∧ P f = true ∧ ∀ j, j < f → P j = false
  | 0, f, h => by simp at h
  | k + 1, f, h => by
    rw [List.range_succ, List.find?_append] at h
    cases h1 : (List.range k).find? P with
    | some g =>
      rw [h1] at h
      simp at h
      subst h
      obtain ⟨a, b, d⟩ := find_range h1
      exact ⟨by omega, b, d⟩
    | none =>
      rw [h1] at h
      simp [List.find?] at h
      rw [List.find?_eq_none] at h1
      split at h
      · rename_i hp
        simp at h
        subst h
        exact ⟨by omega, hp, fun j hj => by simpa using h1 j (by simpa using hj)⟩
      · cases h

theorem lead_spec (k : Nat) (hk : c k ≠ 0) : lead c key k ≤ k ∧ c (lead c key k) ≠ 0 ∧ key (lead c key k) = key k ∧ ∀ j, j < lead c key k → c j = 0 ∨ key j ≠ key k := by
  unfold lead
  cases h : (List.range k).find? (fun f => !(c f == 0) && decide (key f = key k)) with
  | some f =>
    obtain ⟨h1, h2, h3⟩ := find_range h
    simp at h2
    refine ⟨by simp; omega, by simpa using h2.1, by simpa using h2.2, fun j hj => ?_⟩
    have := h3 j (by simpa using hj)
    simp at this
    by_cases e : c j = 0
    · exact .inl e
    · exact .inr (this e)
  | none =>
    rw [List.find?_eq_none] at h
    refine ⟨by simp, by simpa using hk, by simp, fun j hj => ?_⟩
    have := h j (by simpa using hj)
    simp at this
    by_cases e : c j = 0
    · exact .inl e
    · exact .inr (this e)

theorem lead_uniq {k f : Nat} (hk : c k ≠ 0) (hf : c f ≠ 0) (he : key f = key k) (hm : ∀ j, j < f → c j = 0 ∨ key j ≠ key k) : lead c key k = f := by
  obtain ⟨h1, h2, h3, h4⟩ := lead_spec (c := c) (key := key) k hk
  rcases Nat.lt_trichotomy (lead c key k) f with h | h | h
  · rcases hm _ h with e | e
    · exact absurd e h2
    · exact absurd h3 e
  · exact h
  · rcases h4 f h with e | e
    · exact absurd e hf
    · exact absurd he e

theorem lead_lead {k : Nat} (hk : c k ≠ 0) : lead c key (lead c key k) = lead c key k := by
  obtain ⟨h1, h2, h3, h4⟩ := lead_spec (c := c) (key := key) k hk
  exact lead_uniq h2 h2 rfl (fun j hj => by rw [h3]; exact h4 j hj)

theorem isL_iff {f : Nat} : isL c key f = true ↔ c f ≠ 0 ∧ lead c key f = f := by simp [isL]
theorem inG_iff {f k : Nat} : inG c key f k = true ↔ c k ≠ 0 ∧ lead c key k = f := by simp [inG]

theorem mem_Lf {i f : Nat} : f ∈ Lf c key i ↔ f < i ∧ c f ≠ 0 ∧ lead c key f = f := by
  simp [Lf, isL_iff]
theorem mem_Ln {f i k : Nat} : k ∈ Ln c key f i ↔ k < i ∧ c k ≠ 0 ∧ lead c key k = f := by
  simp [Ln, inG_iff]

theorem isL_lead {k : Nat} (hk : c k ≠ 0) : isL c key (lead c key k) = true := isL_iff.2 ⟨(lead_spec k hk).2.1, lead_lead hk⟩

theorem lead_mem {k i : Nat} (hk : c k ≠ 0) (hi : k < i) : lead c key k ∈ Lf c key i := mem_Lf.2 ⟨by have := (lead_spec (key := key) k hk).1; omega, (lead_spec k hk).2.1, lead_lead hk⟩

theorem Lf_zero : Lf c key 0 = [] := rfl
theorem Ln_zero (f : Nat) : Ln c key f 0 = [] := rfl

theorem Lf_yes {i : Nat} (h : isL c key i = true) : Lf c key (i + 1) = Lf c key i ++ [i] := by simp [Lf, List.range_succ, List.filter_append, h]
theorem Lf_no {i : Nat} (h : isL c key i = false) : Lf c key (i + 1) = Lf c key i := by simp [Lf, List.range_succ, List.filter_append, h]
theorem Ln_yes {f i : Nat} (h : inG c key f i = true) : Ln c key f (i + 1) = Ln c key f i ++ [i] := by simp [Ln, List.range_succ, List.filter_append, h]
theorem Ln_no {f i : Nat} (h : inG c key f i = false) : Ln c key f (i + 1) = Ln c key f i := by simp [Ln, List.range_succ, List.filter_append, h]

theorem Lf_nodup (i : Nat) : (Lf c key i).Nodup := List.Pairwise.filter _ List.nodup_range
theorem Lf_len (i : Nat) : (Lf c key i).length ≤ i := by
  have := List.length_filter_le (isL c key) (List.range i)
  simpa [Lf] using this
theorem Ln_len (f i : Nat) : (Ln c key f i).length ≤ i := by
  have := List.length_filter_le (inG c key f) (List.range i)
  simpa [Ln] using this

/-- No line below a leader is its line. -/
theorem Ln_self {f i : Nat} (h : i ≤ f) : Ln c key f i = [] := by
  rw [Ln, List.filter_eq_nil_iff]
  intro k hk
  simp at hk
  intro hg
  obtain ⟨h1, h2⟩ := inG_iff.1 hg
  have := (lead_spec (key := key) k h1).1
  omega

/-- Two leaders of one key are one. -/
theorem leader_key {f g : Nat} (hf : isL c key f = true) (hg : isL c key g = true) (he : key f = key g) : f = g := by
  obtain ⟨f1, f2⟩ := isL_iff.1 hf
  obtain ⟨g1, g2⟩ := isL_iff.1 hg
  rcases Nat.lt_trichotomy f g with h | h | h
  · have := (lead_spec (key := key) g g1).2.2.2 f (by rw [g2]; exact h)
    rcases this with e | e
    · exact absurd e f1
    · exact absurd he e
  · exact h
  · have := (lead_spec (key := key) f f1).2.2.2 g (by rw [f2]; exact h)
    rcases this with e | e
    · exact absurd e g1
    · exact absurd he.symm e

/-- Where a member of a filtered range stands. -/
theorem filter_at (P : Nat → Bool) : ∀ (n k : Nat), k < n → P k = true → ((List.range n).filter P)[((List.range k).filter P).length]? = some k
  | 0, k, h, _ => by omega
  | n + 1, k, h, hp => by
    rw [List.range_succ, List.filter_append]
    by_cases e : k = n
    · subst e
      simp [hp]
    · have ih := filter_at P n k (by omega) hp
      rw [List.getElem?_append_left]
      · exact ih
      · exact (List.getElem?_eq_some_iff.1 ih).1

theorem Lf_at {n f : Nat} (hf : isL c key f = true) (hn : f < n) : (Lf c key n)[(Lf c key f).length]? = some f := filter_at _ n f hn hf
theorem Ln_at {n f k : Nat} (hk : inG c key f k = true) (hn : k < n) : (Ln c key f n)[(Ln c key f k).length]? = some k := filter_at _ n k hn hk

theorem filter_prefix (P : Nat → Bool) {m n : Nat} (h : m ≤ n) : ∃ t, (List.range n).filter P = (List.range m).filter P ++ t ∧ ∀ x ∈ t, m ≤ x := by
  induction n with
  | zero => exact ⟨[], by simp [show m = 0 by omega], by simp⟩
  | succ n ih =>
    by_cases e : m = n + 1
    · exact ⟨[], by simp [e], by simp⟩
    · obtain ⟨t, h1, h2⟩ := ih (by omega)
      refine ⟨t ++ ([n].filter P), by rw [List.range_succ, List.filter_append, h1, List.append_assoc], fun x hx => ?_⟩
      rcases List.mem_append.1 hx with hx | hx
      · exact h2 x hx
      · have := List.mem_filter.1 hx
        simp at this
        omega

theorem Lf_len_mono {m n : Nat} (h : m ≤ n) : (Lf c key m).length ≤ (Lf c key n).length := by
  obtain ⟨t, h1, _⟩ := filter_prefix (isL c key) h
  unfold Lf
  rw [h1]
  simp

end Go.Proofs.Qxb6616265a
