/-
  groupLines: what lies in memory, and how each way of a round turns it. No walk.
-/
import Derived.Test.Qxb6616265aPlain
import Derived.Test.Qxb6616265aRows
import Derived.WalkKit
import Derived.WalkSpells
import Derived.WalkLawsBesides
import Derived.Maps.OwnSet
import Derived.Deep.AppendLies
import Derived.StringKeys
namespace Go.Proofs.Qxb6616265a
open Go.RowKit Go.Maps
open Go.WideMaps (keyOf_string_mk)

theorem hid {p : Prop} (h : p) : Hid p := h

/-- The cells of the groups' row. -/
def rowOf (lv : Nat → Value) (q : Nat → Nat) (key : Nat → ByteArray) (L : List Nat) : List Value := L.flatMap (fun f => [lv f, .slice (some ⟨q f, 0, none⟩) 1 1, .string (key f)])

theorem rowOf_nil (lv : Nat → Value) (q : Nat → Nat) (key : Nat → ByteArray) : rowOf lv q key [] = [] := rfl
theorem rowOf_cons (lv : Nat → Value) (q : Nat → Nat) (key : Nat → ByteArray) (f : Nat) (L : List Nat) : rowOf lv q key (f :: L) = lv f :: .slice (some ⟨q f, 0, none⟩) 1 1 :: .string (key f) :: rowOf lv q key L := rfl

theorem rowOf_length (lv : Nat → Value) (q : Nat → Nat) (key : Nat → ByteArray) (L : List Nat) : (rowOf lv q key L).length = L.length * 3 := by
  induction L with
  | nil => rfl
  | cons f L ih => rw [rowOf_cons]; simp [ih]; omega

theorem rowOf_append (lv : Nat → Value) (q : Nat → Nat) (key : Nat → ByteArray) (L M : List Nat) : rowOf lv q key (L ++ M) = rowOf lv q key L ++ rowOf lv q key M := by simp [rowOf]

theorem rowOf_congr {lv lv' : Nat → Value} (q : Nat → Nat) (key : Nat → ByteArray) {L : List Nat} (h : ∀ f ∈ L, lv f = lv' f) : rowOf lv q key L = rowOf lv' q key L := by
  induction L with
  | nil => rfl
  | cons f L ih => rw [rowOf_cons, rowOf_cons, h f (by simp), ih (fun g hg => h g (by simp [hg]))]

theorem rowOf_get (lv : Nat → Value) (q : Nat → Nat) (key : Nat → ByteArray) {L : List Nat} {g f : Nat} (h : L[g]? = some f) :
    (rowOf lv q key L)[g * 3]? = some (lv f) ∧ (rowOf lv q key L)[g * 3 + 1]? = some (.slice (some ⟨q f, 0, none⟩) 1 1) ∧ (rowOf lv q key L)[g * 3 + 2]? = some (.string (key f)) := by
  induction L generalizing g with
  | nil => simp at h
  | cons x L ih =>
    rw [rowOf_cons]
    cases g with
    | zero => simp at h; subst h; exact ⟨rfl, rfl, rfl⟩
    | succ g =>
      simp at h
      have e : (g + 1) * 3 = g * 3 + 3 := by omega
      rw [e]
      obtain ⟨h1, h2, h3⟩ := ih h
      exact ⟨by simpa using h1, by simpa using h2, by simpa using h3⟩

theorem rowOf_set (lv : Nat → Value) (q : Nat → Nat) (key : Nat → ByteArray) {L : List Nat} (hn : L.Nodup) {g f : Nat} (h : L[g]? = some f) (v : Value) :
    rowOf (fun x => if x = f then v else lv x) q key L = (rowOf lv q key L).set (g * 3) v := by
  induction L generalizing g with
  | nil => simp at h
  | cons x L ih =>
    rw [rowOf_cons, rowOf_cons]
    have hx := (List.nodup_cons.1 hn)
    cases g with
    | zero =>
      simp at h; subst h
      rw [rowOf_congr (lv := fun y => if y = x then v else lv y) (lv' := lv) q key (fun y hy => if_neg (by intro e; subst e; exact hx.1 hy))]
      simp
    | succ g =>
      simp at h
      have e : (g + 1) * 3 = g * 3 + 1 + 1 + 1 := by omega
      have hm : f ∈ L := List.mem_of_getElem? h
      rw [e, if_neg (by intro e'; subst e'; exact hx.1 hm), ih hx.2 h]
      simp

/-- What the map holds behind i lines. -/
def MapOK (c : Nat → Nat) (key : Nat → ByteArray) (D : DataW Unit) (i : Nat) : Prop :=
  ∀ s : ByteArray, (∀ g f : Nat, (Lf c key i)[g]? = some f → key f = s → has D (.string s.data.toList) = true ∧ ∀ z, D.atKey (.string s.data.toList) z = .lit (.int .i64 g)) ∧ ((∀ f ∈ Lf c key i, key f ≠ s) → has D (.string s.data.toList) = false)

theorem bytes_inj {s t : ByteArray} (h : s.data.toList = t.data.toList) : s = t := by
  cases s; cases t; simp at h; rw [h]

theorem MapOK.zero (c : Nat → Nat) (key : Nat → ByteArray) : MapOK c key (.map []) 0 := fun s => ⟨fun g f h => by simp [Lf_zero] at h, fun _ => by simp [has]⟩

theorem MapOK.same {c : Nat → Nat} {key : Nat → ByteArray} {D : DataW Unit} {i : Nat} (h : MapOK c key D i) (hi : isL c key i = false) : MapOK c key D (i + 1) := by
  intro s
  rw [Lf_no hi]
  exact h s

theorem MapOK.put {c : Nat → Nat} {key : Nat → ByteArray} {D : DataW Unit} {i : Nat} (h : MapOK c key D i) (hi : isL c key i = true) (hD : IsMap D) : MapOK c key (D.put (.string (key i).data.toList) (.lit (.int .i64 (Lf c key i).length))) (i + 1) := by
  intro s
  rw [Lf_yes hi]
  obtain ⟨h1, h2⟩ := h s
  by_cases e : s = key i
  · subst e
    refine ⟨fun g f hg hf => ?_, fun hno => absurd rfl (hno i (by simp))⟩
    have : f = i := by
      have hm : f ∈ Lf c key i ++ [i] := List.mem_of_getElem? hg
      have hfl : isL c key f = true := by
        rcases List.mem_append.1 hm with hm | hm
        · exact isL_iff.2 (mem_Lf.1 hm).2
        · simp at hm; subst hm; exact hi
      exact leader_key hfl hi hf
    subst this
    have hg' : g = (Lf c key f).length := by
      rcases Nat.lt_or_ge g (Lf c key f).length with hlt | hge
      · rw [List.getElem?_append_left hlt] at hg
        have := (mem_Lf.1 (List.mem_of_getElem? hg)).1
        omega
      · have hlt := (List.getElem?_eq_some_iff.1 hg).1
        simp at hlt
        omega
    subst hg'
    exact ⟨has_put_same hD (k := .string (key f).data.toList) trivial _, fun z => atKey_put_same hD (k := .string (key f).data.toList) trivial _ z⟩
  · have hne : (Lit.string s.data.toList) ≠ (Lit.string (key i).data.toList) := by
      intro e'; injection e' with e'; exact e (bytes_inj e')
    refine ⟨fun g f hg hf => ?_, fun hno => ?_⟩
    · have hlt : g < (Lf c key i).length := by
        have hlt := (List.getElem?_eq_some_iff.1 hg).1
        simp at hlt
        rcases Nat.lt_or_ge g (Lf c key i).length with h' | h'
        · exact h'
        · have : g = (Lf c key i).length := by omega
          subst this
          simp at hg
          subst hg
          exact absurd hf.symm e
      rw [List.getElem?_append_left hlt] at hg
      rw [has_put_other hne]
      exact ⟨(h1 g f hg hf).1, fun z => by rw [atKey_put_other hne]; exact (h1 g f hg hf).2 z⟩
    · rw [has_put_other hne]
      exact h2 (fun f hf => hno f (by simp [hf]))

theorem lawS : Keyed Try.prog 9 := string_keyed Try.underlying9
theorem zero3 (w : World) : (zeroValue 3).run Try.prog w = .ok (.int .i64 0) w := by kernel_rfl
theorem wf_nat {n : Nat} (h : n ≤ 1048576) : (Lit.int .i64 (n : Int)).wf = true := WalkArith.wf_i64 (n := (n : Int)) (by omega)

/-- The look-up where the key has come before. -/
theorem look_yes {w : World} {b n i g f : Nat} {D : DataW Unit} {c : Nat → Nat} {key : Nat → ByteArray} (h : w.ownsMap Try.prog 9 (plainElem Try.prog 3) b n D) (hm : MapOK c key D i) {s : ByteArray} (hs : s.size ≤ maxLen) (hg : (Lf c key i)[g]? = some f) (hf : key f = s) :
    (Instr.lookup 59 (.map (some b)) (.string s) true).run Try.prog w = .ok (.tuple #[.int .i64 g, .bool true]) w := by
  obtain ⟨v, ps, hrun, hv⟩ := h.look_ok lawS Try.underlying59 (zero3 w) (plainElem_int (a := 0) Try.underlying3 (by decide)) (keyOf_string_mk Try.underlying9 hs)
  obtain ⟨h1, h2⟩ := (hm s).1 g f hg hf
  rw [h2] at hv
  rw [h1] at hrun
  obtain ⟨a, rfl, ha, _⟩ := plainElem_int_inv Try.underlying3 hv
  simp at ha
  obtain ⟨rfl, _⟩ := ha
  exact hrun

theorem look_no {w : World} {b n i : Nat} {D : DataW Unit} {c : Nat → Nat} {key : Nat → ByteArray} (h : w.ownsMap Try.prog 9 (plainElem Try.prog 3) b n D) (hm : MapOK c key D i) {s : ByteArray} (hs : s.size ≤ maxLen) (hno : ∀ f ∈ Lf c key i, key f ≠ s) :
    (Instr.lookup 59 (.map (some b)) (.string s) true).run Try.prog w = .ok (.tuple #[.int .i64 0, .bool false]) w := by
  obtain ⟨v, ps, hrun, hv⟩ := h.look_ok lawS Try.underlying59 (zero3 w) (plainElem_int (a := 0) Try.underlying3 (by decide)) (keyOf_string_mk Try.underlying9 hs)
  have hh := (hm s).2 hno
  rw [atKey_of_not_has hh] at hv
  rw [hh] at hrun
  obtain ⟨a, rfl, ha, _⟩ := plainElem_int_inv Try.underlying3 hv
  simp at ha
  obtain ⟨rfl, _⟩ := ha
  exact hrun

end Go.Proofs.Qxb6616265a
