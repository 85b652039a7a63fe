/-
  JSON numbers, plainly: what the reader's 'number' does, and the automaton: they agree. No Go in sight.
-/
namespace Go.Proofs.Qxb6616277aFmt

/-- A digit. -/
def isd (x : Int) : Bool := decide (48 ≤ x ∧ x ≤ 57)
/-- 'e' or 'E'. -/
def isE (x : Int) : Bool := decide (x = 101 ∨ x = 69)
/-- A sign. -/
def isS (x : Int) : Bool := decide (x = 43 ∨ x = 45)

/-- Where a run of digits ends: f bytes at most. -/
def run (D : Nat → Int) : Nat → Nat → Nat
  | 0, p => p
  | f + 1, p => if isd (D p) then run D f (p + 1) else p
def runTo (D : Nat → Int) (n p : Nat) : Nat := run D (n - p) p

def digits (D : Nat → Int) (n p : Nat) : Bool × Nat := if p < n ∧ isd (D p) = true then (true, runTo D n p) else (false, p)

/-- The exponent's digits, behind the letter. -/
def signed (D : Nat → Int) (n p : Nat) : Bool × Nat := digits D n (if p < n ∧ isS (D p) = true then p + 1 else p)
def expo (D : Nat → Int) (n p : Nat) : Bool × Nat := if p < n ∧ isE (D p) = true then signed D n (p + 1) else (true, p)
/-- Behind a part that may have failed. -/
def andThen (r : Bool × Nat) (k : Nat → Bool × Nat) : Bool × Nat := if r.1 = true then k r.2 else (false, r.2)
def frac (D : Nat → Int) (n p : Nat) : Bool × Nat := andThen (if p < n ∧ D p = 46 then digits D n (p + 1) else (true, p)) (expo D n)
def body (D : Nat → Int) (n p : Nat) : Bool × Nat := if p < n then andThen (if D p = 48 then (true, p + 1) else digits D n p) (frac D n) else (false, p)
/-- The reader's 'number', at a document's start. -/
def number (D : Nat → Int) (n : Nat) : Bool × Nat := body D n (if D 0 = 45 then 1 else 0)

theorem runTo_of_not {D : Nat → Int} {n p : Nat} (h : isd (D p) = false) : runTo D n p = p := by
  unfold runTo
  cases hf : n - p with
  | zero => rfl
  | succ f => simp [run, h]
theorem runTo_end {D : Nat → Int} {n p : Nat} (h : n ≤ p) : runTo D n p = p := by
  unfold runTo
  rw [show n - p = 0 by omega]
  rfl
theorem runTo_step {D : Nat → Int} {n p : Nat} (h : p < n) (hd : isd (D p) = true) : runTo D n p = runTo D n (p + 1) := by
  unfold runTo
  rw [show n - p = (n - (p + 1)) + 1 by omega]
  simp [run, hd]
theorem run_le (D : Nat → Int) : ∀ f p, p ≤ run D f p ∧ run D f p ≤ p + f
  | 0, p => by simp [run]
  | f + 1, p => by
    simp only [run]
    split
    · have := run_le D f (p + 1); omega
    · omega
theorem runTo_le {D : Nat → Int} {n p : Nat} (h : p ≤ n) : p ≤ runTo D n p ∧ runTo D n p ≤ n := by
  have := run_le D (n - p) p
  unfold runTo
  omega
theorem run_stop (D : Nat → Int) : ∀ f p, run D f p < p + f → isd (D (run D f p)) = false
  | 0, p => by simp [run]
  | f + 1, p => by
    simp only [run]
    split
    · intro h; exact run_stop D f (p + 1) (by omega)
    · intro _; simpa using (by assumption : ¬ isd (D p) = true)
theorem runTo_stop {D : Nat → Int} {n p : Nat} (h : p ≤ n) (hr : runTo D n p < n) : isd (D (runTo D n p)) = false := run_stop D (n - p) p (by unfold runTo at hr; omega)

/-- The automaton's step. -/
def step (s : Nat) (c : Int) : Option Nat :=
  match s with
  | 0 => if c = 45 then some 1 else if c = 48 then some 2 else if isd c = true then some 3 else none
  | 1 => if c = 48 then some 2 else if isd c = true then some 3 else none
  | 2 => if c = 46 then some 4 else if isE c = true then some 6 else none
  | 3 => if isd c = true then some 3 else if c = 46 then some 4 else if isE c = true then some 6 else none
  | 4 => if isd c = true then some 5 else none
  | 5 => if isd c = true then some 5 else if isE c = true then some 6 else none
  | 6 => if isd c = true then some 8 else if isS c = true then some 7 else none
  | 7 => if isd c = true then some 8 else none
  | 8 => if isd c = true then some 8 else none
  | _ => none

def autF (D : Nat → Int) : Nat → Nat → Nat → Nat × Nat
  | 0, s, p => (p, s)
  | f + 1, s, p => match step s (D p) with
    | none => (p, s)
    | some x => autF D f x (p + 1)
/-- The automaton from state s at p: where it stops, and in which state. -/
def aut (D : Nat → Int) (n s p : Nat) : Nat × Nat := autF D (n - p) s p
def acc (s : Nat) : Bool := decide (s = 2 ∨ s = 3 ∨ s = 5 ∨ s = 8)
def out (r : Nat × Nat) : Bool × Nat := (acc r.2, r.1)

theorem aut_end {D : Nat → Int} {n s p : Nat} (h : n ≤ p) : aut D n s p = (p, s) := by
  unfold aut
  rw [show n - p = 0 by omega]
  rfl
theorem aut_none {D : Nat → Int} {n s p : Nat} (h : step s (D p) = none) : aut D n s p = (p, s) := by
  unfold aut
  cases n - p with
  | zero => rfl
  | succ f => simp [autF, h]
theorem aut_some {D : Nat → Int} {n s p x : Nat} (hp : p < n) (h : step s (D p) = some x) : aut D n s p = aut D n x (p + 1) := by
  unfold aut
  rw [show n - p = (n - (p + 1)) + 1 by omega]
  simp [autF, h]

/-- States 3, 5 and 8 eat digits. -/
theorem aut_run {D : Nat → Int} {s : Nat} (hs : ∀ c, isd c = true → step s c = some s) : ∀ f n p, n - p = f → aut D n s p = aut D n s (runTo D n p)
  | 0, n, p, h => by rw [runTo_end (by omega)]
  | f + 1, n, p, h => by
    by_cases hd : isd (D p) = true
    · rw [aut_some (by omega) (hs _ hd), runTo_step (by omega) hd]
      exact aut_run hs f n (p + 1) (by omega)
    · rw [runTo_of_not (by simpa using hd)]

theorem E_not_d {c : Int} (h : isE c = true) : isd c = false := by simp [isE] at h; simp [isd]; omega
theorem S_not_d {c : Int} (h : isS c = true) : isd c = false := by simp [isS] at h; simp [isd]; omega

theorem out8 {D : Nat → Int} {n p : Nat} (hp : p ≤ n) : out (aut D n 8 p) = (true, runTo D n p) := by
  rw [aut_run (s := 8) (fun c hc => by simp [step, hc]) _ n p rfl]
  by_cases h : runTo D n p < n
  · have hd := runTo_stop hp h
    rw [aut_none (by simp [step, hd])]; rfl
  · rw [aut_end (by omega)]; rfl
theorem out7 {D : Nat → Int} {n p : Nat} : out (aut D n 7 p) = digits D n p := by
  by_cases h : p < n
  · by_cases hd : isd (D p) = true
    · rw [aut_some h (x := 8) (by simp [step, hd]), out8 (by omega)]
      simp [digits, h, hd, runTo_step h hd]
    · rw [aut_none (by simp [step, hd])]
      simp [digits, hd, out, acc]
  · rw [aut_end (by omega)]
    simp [digits, h, out, acc]
theorem out6 {D : Nat → Int} {n p : Nat} : out (aut D n 6 p) = signed D n p := by
  unfold signed
  by_cases h : p < n
  · by_cases hd : isd (D p) = true
    · have hs : isS (D p) = false := by
        cases hx : isS (D p) with
        | false => rfl
        | true => rw [S_not_d hx] at hd; cases hd
      rw [aut_some h (x := 8) (by simp [step, hd]), out8 (by omega)]
      simp [digits, h, hd, hs, runTo_step h hd]
    · by_cases hs : isS (D p) = true
      · rw [aut_some h (x := 7) (by simp [step, hd, hs]), out7]
        simp [h, hs]
      · rw [aut_none (by simp [step, hd, hs])]
        simp [digits, hd, hs, out, acc]
  · rw [aut_end (by omega)]
    simp [digits, h, out, acc]
theorem out5 {D : Nat → Int} {n p : Nat} (hn : p < n → isd (D p) = false) : out (aut D n 5 p) = expo D n p := by
  unfold expo
  by_cases h : p < n
  · have hd := hn h
    by_cases he : isE (D p) = true
    · rw [aut_some h (x := 6) (by simp [step, hd, he]), out6]
      simp [h, he]
    · rw [aut_none (by simp [step, hd, he])]
      simp [he, out, acc]
  · rw [aut_end (by omega)]
    simp [h, out, acc]
theorem out4 {D : Nat → Int} {n p : Nat} : out (aut D n 4 p) = andThen (digits D n p) (expo D n) := by
  by_cases h : p < n
  · by_cases hd : isd (D p) = true
    · rw [aut_some h (x := 5) (by simp [step, hd]), aut_run (s := 5) (fun c hc => by simp [step, hc]) _ n (p + 1) rfl, out5 (fun hx => runTo_stop (by omega) hx)]
      simp [digits, h, hd, andThen, runTo_step h hd]
    · rw [aut_none (by simp [step, hd])]
      simp [digits, hd, out, acc, andThen]
  · rw [aut_end (by omega)]
    simp [digits, h, out, acc, andThen]
theorem E_not_46 {c : Int} (h : isE c = true) : ¬ c = 46 := by simp [isE] at h; omega
theorem out2 {D : Nat → Int} {n p : Nat} : out (aut D n 2 p) = frac D n p := by
  unfold frac
  by_cases h : p < n
  · by_cases hd : D p = 46
    · rw [aut_some h (x := 4) (by simp [step, hd]), out4]
      simp [h, hd]
    · by_cases he : isE (D p) = true
      · rw [aut_some h (x := 6) (by simp [step, hd, he]), out6]
        simp [hd, andThen, expo, h, he]
      · rw [aut_none (by simp [step, hd, he])]
        simp [hd, he, andThen, expo, out, acc]
  · rw [aut_end (by omega)]
    simp [h, andThen, expo, out, acc]
theorem out3 {D : Nat → Int} {n p : Nat} (hn : p < n → isd (D p) = false) : out (aut D n 3 p) = frac D n p := by
  unfold frac
  by_cases h : p < n
  · have hx := hn h
    by_cases hd : D p = 46
    · have hx2 : isd 46 = false := by decide
      rw [aut_some h (x := 4) (by simp [step, hd, hx2]), out4]
      simp [h, hd]
    · by_cases he : isE (D p) = true
      · rw [aut_some h (x := 6) (by simp [step, hx, hd, he]), out6]
        simp [hd, andThen, expo, h, he]
      · rw [aut_none (by simp [step, hx, hd, he])]
        simp [hd, he, andThen, expo, out, acc]
  · rw [aut_end (by omega)]
    simp [h, andThen, expo, out, acc]
/-- Behind the sign: states 0 (no sign there) and 1. -/
theorem outBody {D : Nat → Int} {n p s : Nat} (hs : s = 1 ∨ (s = 0 ∧ p < n ∧ D p ≠ 45)) : out (aut D n s p) = body D n p := by
  unfold body
  by_cases h : p < n
  · by_cases h0 : D p = 48
    · have e : step s (D p) = some 2 := by rcases hs with rfl | ⟨rfl, _, h45⟩ <;> simp [step, h0]
      rw [aut_some h e, out2]
      simp [h, h0, andThen]
    · by_cases hd : isd (D p) = true
      · have e : step s (D p) = some 3 := by rcases hs with rfl | ⟨rfl, _, h45⟩ <;> simp [step, *]
        rw [aut_some h e, aut_run (s := 3) (fun c hc => by simp [step, hc]) _ n (p + 1) rfl, out3 (fun hx => runTo_stop (by omega) hx)]
        simp [h, h0, digits, hd, andThen, runTo_step h hd]
      · have e : step s (D p) = none := by rcases hs with rfl | ⟨rfl, _, h45⟩ <;> simp [step, *]
        rw [aut_none e]
        have : acc s = false := by rcases hs with rfl | ⟨rfl, _⟩ <;> rfl
        simp [h, h0, digits, hd, andThen, out, this]
  · rw [aut_end (by omega)]
    have : acc s = false := by rcases hs with rfl | ⟨rfl, _⟩ <;> rfl
    simp [h, out, this]
theorem out_number {D : Nat → Int} {n : Nat} (hn : 0 < n) : out (aut D n 0 0) = number D n := by
  unfold number
  by_cases h : D 0 = 45
  · rw [aut_some hn (x := 1) (by simp [step, h]), outBody (.inl rfl)]
    simp [h]
  · rw [outBody (.inr ⟨rfl, hn, h⟩)]
    simp [h]

/-! ### A cut -/
theorem autF_ge (D : Nat → Int) : ∀ f s p, p ≤ (autF D f s p).1
  | 0, s, p => by simp [autF]
  | f + 1, s, p => by
    simp only [autF]
    cases step s (D p) with
    | none => exact Nat.le_refl _
    | some x => exact Nat.le_trans (Nat.le_succ p) (autF_ge D f x (p + 1))
theorem aut_cut (D : Nat → Int) {n k m t : Nat} (hk : k ≤ n) (hm : m ≤ k) : ∀ f s p, n - p = f → aut D n s p = (m, t) → aut D k s p = (m, t)
  | 0, s, p, hf, h => by
    rw [aut_end (by omega)] at h ⊢
    exact h
  | f + 1, s, p, hf, h => by
    cases hs : step s (D p) with
    | none =>
      rw [aut_none hs] at h ⊢
      exact h
    | some x =>
      rw [aut_some (by omega) hs] at h
      have h1 : p + 1 ≤ (aut D n x (p + 1)).1 := autF_ge D _ _ _
      rw [h] at h1
      rw [aut_some (by simp at h1; omega) hs]
      exact aut_cut D hk hm f x (p + 1) (by omega) h
/-- A number that ends at m, cut at m or behind: the same number. -/
theorem number_cut {D : Nat → Int} {n k : Nat} (h0 : 0 < k) (hk : k ≤ n) (hm : (number D n).2 ≤ k) : number D k = number D n := by
  rw [← out_number (n := n) (by omega)] at hm ⊢
  rw [← out_number (n := k) h0]
  rw [aut_cut D hk hm _ 0 0 rfl (t := (aut D n 0 0).2) rfl]
  rfl

/-! ### A sign ahead -/
section
variable {D D' : Nat → Int}
theorem run_shift (h : ∀ i, D' (i + 1) = D i) : ∀ f p, run D' f (p + 1) = run D f p + 1
  | 0, p => rfl
  | f + 1, p => by
    simp only [run, h p]
    split
    · exact run_shift h f (p + 1)
    · rfl
theorem digits_shift (h : ∀ i, D' (i + 1) = D i) (n p : Nat) : digits D' (n + 1) (p + 1) = ((digits D n p).1, (digits D n p).2 + 1) := by
  unfold digits runTo
  rw [h p, show n + 1 - (p + 1) = n - p by omega, run_shift h]
  by_cases e : p < n ∧ isd (D p) = true
  · simp [e]
  · rw [if_neg e, if_neg (by intro hx; exact e ⟨by omega, hx.2⟩)]
theorem signed_shift (h : ∀ i, D' (i + 1) = D i) (n p : Nat) : signed D' (n + 1) (p + 1) = ((signed D n p).1, (signed D n p).2 + 1) := by
  unfold signed
  rw [h p]
  by_cases e : p < n ∧ isS (D p) = true
  · rw [if_pos e, if_pos ⟨by omega, e.2⟩]
    exact digits_shift h n (p + 1)
  · rw [if_neg e, if_neg (by intro hx; exact e ⟨by omega, hx.2⟩)]
    exact digits_shift h n p
theorem expo_shift (h : ∀ i, D' (i + 1) = D i) (n p : Nat) : expo D' (n + 1) (p + 1) = ((expo D n p).1, (expo D n p).2 + 1) := by
  unfold expo
  rw [h p]
  by_cases e : p < n ∧ isE (D p) = true
  · rw [if_pos e, if_pos ⟨by omega, e.2⟩]
    exact signed_shift h n (p + 1)
  · rw [if_neg e, if_neg (by intro hx; exact e ⟨by omega, hx.2⟩)]
theorem andThen_shift {r : Bool × Nat} {k k' : Nat → Bool × Nat} (hk : ∀ p, k' (p + 1) = ((k p).1, (k p).2 + 1)) : andThen (r.1, r.2 + 1) k' = ((andThen r k).1, (andThen r k).2 + 1) := by
  unfold andThen
  by_cases e : r.1 = true
  · simp [e, hk]
  · simp [e]
theorem frac_shift (h : ∀ i, D' (i + 1) = D i) (n p : Nat) : frac D' (n + 1) (p + 1) = ((frac D n p).1, (frac D n p).2 + 1) := by
  unfold frac
  rw [← andThen_shift (expo_shift h n), h p]
  by_cases e : p < n ∧ D p = 46
  · rw [if_pos e, if_pos ⟨by omega, e.2⟩, digits_shift h n (p + 1)]
  · rw [if_neg e, if_neg (by intro hx; exact e ⟨by omega, hx.2⟩)]
theorem body_shift (h : ∀ i, D' (i + 1) = D i) (n p : Nat) : body D' (n + 1) (p + 1) = ((body D n p).1, (body D n p).2 + 1) := by
  unfold body
  rw [h p]
  by_cases e : p < n
  · rw [if_pos e, if_pos (by omega), ← andThen_shift (frac_shift h n)]
    by_cases e0 : D p = 48
    · rw [if_pos e0, if_pos e0]
    · rw [if_neg e0, if_neg e0, digits_shift h n p]
  · rw [if_neg e, if_neg (by omega)]
/-- A minus sign ahead of a number that has none. -/
theorem number_sign (h : ∀ i, D' (i + 1) = D i) (n : Nat) (h0 : D' 0 = 45) (h1 : D 0 ≠ 45) : number D' (n + 1) = ((number D n).1, (number D n).2 + 1) := by
  unfold number
  rw [if_pos h0, if_neg h1]
  exact body_shift h n 0
end

end Go.Proofs.Qxb6616277aFmt
