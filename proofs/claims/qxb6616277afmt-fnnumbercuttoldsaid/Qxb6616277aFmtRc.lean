/-
  number's regions that look ahead: its sign.
-/
import Derived.Test.Qxb6616277aFmtRa
namespace Go.Proofs.Qxb6616277aFmt
open Go.RowKit Go.Deep Go.Extern.Stop Go.Stop Go.Extern

set_option linter.unusedSimpArgs false in
set_option maxHeartbeats 1600000 in
set_option maxRecDepth 1000000 in
theorem r17_first (w0 : World) (R S d n : Nat) (D : Nat → Int) (x : Addr) (p : Nat) (w : World) (hg : w0.cell? ⟨0, 0, none⟩ = some (eofV x)) (HA : Hid (At w0 R S d n D x p w)) (hp : p < n) (hq : (D p == 43) = true) (Q : Exit → Act → World → Prop) (hpan : ∀ (c : _) (a : Act) (d : Option Tmp) (v : Value) (w : World), Q (.panic c) (a.put d v) w → Q (.panic c) a w)
    (c1 c2 c3 c4 c5 c6 c7 c8 c9 c10 c11 c12 c13 c14 c15 c16 c17 c18 c19 c20 c21 c22 c23 c24 c25 c26 c27 c28 c29 c30 c31 c32 c33 c34 c35 c36 c37 c38 c39 c40 c41 c42 c43 c44 c45 c46 c47 c48 c49 c50 c51 c52 c53 c54 c55 c56 c57 c58 c59 c60 c61 c62 c63 c64 c65 c66 c67 c68 c69 c70 c71 c72 c73 c74 c75 c76 c77 c78 c79 c80 c81 c82 c83 c84 c85 c86 c87 c88 c89 c90 c91 c92 c93 c94 c95 c96 c97 c98 c99 c100 c101 c102 c103 c104 c105 c106 c107 c108 c109 c110 c111 c112 c113 c114 c115 c116 c117 c118 c119 c120 c121 c122 c123 c124 c125 c126 c127 c128 c129 c130 c131 c132 c133 c134 c135 c136 c137 c138 c139 c140 c141 c142 c143 c144 c145 c146 c147 c148 c149 c150 c151 c152 c153 c154 c155 : Value) (hK : Hid (∀ (v114 v115 v116 v117 v118 v119 v120 v121 v122 v123 v124 v125 v126 v127 v128 v129 v130 v131 v132 v133 v134 v135 v136 v137 v138 v139 v140 : Value) (w' : World), Ready w0 R S d n D x p w' → Q .normal ⟨#[.pointer (some ⟨R, 0, none⟩), c1, c2, c3, c4, c5, c6, c7, c8, c9, c10, c11, c12, c13, c14, c15, c16, c17, c18, c19, c20, c21, c22, c23, c24, c25, c26, c27, c28, c29, c30, c31, c32, c33, c34, c35, c36, c37, c38, c39, c40, c41, c42, c43, c44, c45, c46, c47, c48, c49, c50, c51, c52, c53, c54, c55, c56, c57, c58, c59, c60, c61, c62, c63, c64, c65, c66, c67, c68, c69, c70, c71, c72, c73, c74, c75, c76, c77, c78, c79, c80, c81, c82, c83, c84, c85, c86, c87, c88, c89, c90, c91, c92, c93, c94, c95, c96, c97, c98, c99, c100, c101, c102, c103, c104, c105, c106, c107, c108, c109, c110, c111, c112, c113, v114, v115, v116, v117, v118, v119, v120, v121, v122, v123, v124, v125, v126, v127, v128, v129, v130, v131, v132, v133, v134, v135, v136, v137, v138, v139, v140, .bool true, c142, c143, c144, c145, c146, c147, c148, c149, c150, c151, c152, c153, c154, c155], []⟩ w')) :
    Code.wp Tryf.prog (regOf Tryf.f40 17) Q ⟨#[.pointer (some ⟨R, 0, none⟩), c1, c2, c3, c4, c5, c6, c7, c8, c9, c10, c11, c12, c13, c14, c15, c16, c17, c18, c19, c20, c21, c22, c23, c24, c25, c26, c27, c28, c29, c30, c31, c32, c33, c34, c35, c36, c37, c38, c39, c40, c41, c42, c43, c44, c45, c46, c47, c48, c49, c50, c51, c52, c53, c54, c55, c56, c57, c58, c59, c60, c61, c62, c63, c64, c65, c66, c67, c68, c69, c70, c71, c72, c73, c74, c75, c76, c77, c78, c79, c80, c81, c82, c83, c84, c85, c86, c87, c88, c89, c90, c91, c92, c93, c94, c95, c96, c97, c98, c99, c100, c101, c102, c103, c104, c105, c106, c107, c108, c109, c110, c111, c112, c113, c114, c115, c116, c117, c118, c119, c120, c121, c122, c123, c124, c125, c126, c127, c128, c129, c130, c131, c132, c133, c134, c135, c136, c137, c138, c139, c140, c141, c142, c143, c144, c145, c146, c147, c148, c149, c150, c151, c152, c153, c154, c155], []⟩ w := by
  change Code.wp Tryf.prog (.region _ _ _) _ _ _
  refine wp_region_any (by kernel_rfl) ?_
  change wpAny _ _ _ _ _ _ _ (World.drew _)
  refine wpAny_take (i := 0) (v := ?_) rfl (by kernel_rfl) (by kernel_rfl) (by kernel_rfl) (fun _ _ _ h => hpan _ _ _ _ _ h) (Or.inl ⟨by rfl, ?_⟩) ?_
  rotate_left
  · (intro w; go_simp <;> with_reducible rfl)
  simp only [Act.put, List.setIfInBounds_toArray, List.set_cons_zero, List.set_cons_succ]
  refine wpAny_ready (rs := [1]) (by kernel_rfl) (by simp) ?_
  refine AllReady.cons rfl (fun K hK => ?_) AllReady.nil
  go_simp
  refine (need_yes w0 R S d n D x p _ ?_ hg hp).mono ?_
  · exact HA.out.keep (Chg.refl _ _).drew
  rintro e w3 ⟨rfl, hR⟩
  have HR := hid hR
  obtain ⟨B, L, pos, lk⟩ := hR.look
  have h1 := lk.h1
  have h2 := lk.h2
  have hbb := lk.hb
  have b1 := lk.lt
  have b2 := lk.le
  clear lk hR
  go_wp2
  refine wpAny_of_held (S := fun w' => w'.cell? ⟨R, 1, none⟩ = some (.slice (some ⟨B, 0, none⟩) L L) ∧ w'.cell? ⟨R, 2, none⟩ = some (.int .i64 pos) ∧ w'.cell? ⟨B, pos, none⟩ = some (.int .u8 (D p))) _ _ _ _ ?_
  have hS5 := And.intro h1 (And.intro h2 hbb)
  refine take_at 2 (by kernel_rfl) (by kernel_rfl) (by kernel_rfl) (by kernel_rfl) hS5 (fun oi hoi => ?_)
  simp only [List.getElem?_toArray, List.getElem?_cons_succ, List.getElem?_cons_zero, Option.some.injEq] at hoi
  subst hoi
  refine ⟨?_, fun _ _ _ h => hpan _ _ _ _ _ h, Or.inl ⟨by rfl, ?_⟩, ?_⟩
  rotate_left
  · (intro w hSw; (try dsimp only at hSw); go_simp <;> with_reducible rfl)
  simp only [Act.put, List.setIfInBounds_toArray, List.set_cons_zero, List.set_cons_succ]
  refine take_at 3 (by kernel_rfl) (by kernel_rfl) (by kernel_rfl) (by kernel_rfl) hS5 (fun oi hoi => ?_)
  simp only [List.getElem?_toArray, List.getElem?_cons_succ, List.getElem?_cons_zero, Option.some.injEq] at hoi
  subst hoi
  refine ⟨?_, fun _ _ _ h => hpan _ _ _ _ _ h, Or.inl ⟨by rfl, ?_⟩, ?_⟩
  rotate_left
  · (intro w hSw; (try dsimp only at hSw); go_simp <;> with_reducible rfl)
  simp only [Act.put, List.setIfInBounds_toArray, List.set_cons_zero, List.set_cons_succ]
  refine take_at 4 (by kernel_rfl) (by kernel_rfl) (by kernel_rfl) (by kernel_rfl) hS5 (fun oi hoi => ?_)
  simp only [List.getElem?_toArray, List.getElem?_cons_succ, List.getElem?_cons_zero, Option.some.injEq] at hoi
  subst hoi
  refine ⟨?_, fun _ _ _ h => hpan _ _ _ _ _ h, Or.inl ⟨by rfl, ?_⟩, ?_⟩
  rotate_left
  · (intro w hSw; (try dsimp only at hSw); go_simp <;> with_reducible rfl)
  simp only [Act.put, List.setIfInBounds_toArray, List.set_cons_zero, List.set_cons_succ]
  refine take_at 5 (by kernel_rfl) (by kernel_rfl) (by kernel_rfl) (by kernel_rfl) hS5 (fun oi hoi => ?_)
  simp only [List.getElem?_toArray, List.getElem?_cons_succ, List.getElem?_cons_zero, Option.some.injEq] at hoi
  subst hoi
  refine ⟨?_, fun _ _ _ h => hpan _ _ _ _ _ h, Or.inl ⟨by rfl, ?_⟩, ?_⟩
  rotate_left
  · (intro w hSw; (try dsimp only at hSw); go_simp <;> with_reducible rfl)
  simp only [Act.put, List.setIfInBounds_toArray, List.set_cons_zero, List.set_cons_succ]
  refine take_at 6 (by kernel_rfl) (by kernel_rfl) (by kernel_rfl) (by kernel_rfl) hS5 (fun oi hoi => ?_)
  simp only [List.getElem?_toArray, List.getElem?_cons_succ, List.getElem?_cons_zero, Option.some.injEq] at hoi
  subst hoi
  refine ⟨?_, fun _ _ _ h => hpan _ _ _ _ _ h, Or.inl ⟨by rfl, ?_⟩, ?_⟩
  rotate_left
  · (intro w hSw; (try dsimp only at hSw); go_simp <;> with_reducible rfl)
  simp only [Act.put, List.setIfInBounds_toArray, List.set_cons_zero, List.set_cons_succ]
  refine take_at 7 (by kernel_rfl) (by kernel_rfl) (by kernel_rfl) (by kernel_rfl) hS5 (fun oi hoi => ?_)
  simp only [List.getElem?_toArray, List.getElem?_cons_succ, List.getElem?_cons_zero, Option.some.injEq] at hoi
  subst hoi
  refine ⟨?_, fun _ _ _ h => hpan _ _ _ _ _ h, Or.inl ⟨by rfl, ?_⟩, ?_⟩
  rotate_left
  · (intro w hSw; (try dsimp only at hSw); go_simp <;> with_reducible rfl)
  simp only [Act.put, List.setIfInBounds_toArray, List.set_cons_zero, List.set_cons_succ]
  refine take_at 8 (by kernel_rfl) (by kernel_rfl) (by kernel_rfl) (by kernel_rfl) hS5 (fun oi hoi => ?_)
  simp only [List.getElem?_toArray, List.getElem?_cons_succ, List.getElem?_cons_zero, Option.some.injEq] at hoi
  subst hoi
  refine ⟨?_, fun _ _ _ h => hpan _ _ _ _ _ h, Or.inl ⟨by rfl, ?_⟩, ?_⟩
  rotate_left
  · (intro w hSw; (try dsimp only at hSw); go_simp <;> with_reducible rfl)
  simp only [Act.put, List.setIfInBounds_toArray, List.set_cons_zero, List.set_cons_succ]
  refine take_at 9 (by kernel_rfl) (by kernel_rfl) (by kernel_rfl) (by kernel_rfl) hS5 (fun oi hoi => ?_)
  simp only [List.getElem?_toArray, List.getElem?_cons_succ, List.getElem?_cons_zero, Option.some.injEq] at hoi
  subst hoi
  refine ⟨?_, fun _ _ _ h => hpan _ _ _ _ _ h, Or.inl ⟨by rfl, ?_⟩, ?_⟩
  rotate_left
  · (intro w hSw; (try dsimp only at hSw); go_simp <;> with_reducible rfl)
  simp only [Act.put, List.setIfInBounds_toArray, List.set_cons_zero, List.set_cons_succ]
  refine take_at 10 (by kernel_rfl) (by kernel_rfl) (by kernel_rfl) (by kernel_rfl) hS5 (fun oi hoi => ?_)
  simp only [List.getElem?_toArray, List.getElem?_cons_succ, List.getElem?_cons_zero, Option.some.injEq] at hoi
  subst hoi
  refine ⟨?_, fun _ _ _ h => hpan _ _ _ _ _ h, Or.inl ⟨by rfl, ?_⟩, ?_⟩
  rotate_left
  · (intro w hSw; (try dsimp only at hSw); go_simp <;> with_reducible rfl)
  simp only [Act.put, List.setIfInBounds_toArray, List.set_cons_zero, List.set_cons_succ]
  refine take_at 11 (by kernel_rfl) (by kernel_rfl) (by kernel_rfl) (by kernel_rfl) hS5 (fun oi hoi => ?_)
  simp only [List.getElem?_toArray, List.getElem?_cons_succ, List.getElem?_cons_zero, Option.some.injEq] at hoi
  subst hoi
  refine ⟨?_, fun _ _ _ h => hpan _ _ _ _ _ h, Or.inl ⟨by rfl, ?_⟩, ?_⟩
  rotate_left
  · (intro w hSw; (try dsimp only at hSw); go_simp <;> with_reducible rfl)
  simp only [Act.put, List.setIfInBounds_toArray, List.set_cons_zero, List.set_cons_succ]
  refine take_at 12 (by kernel_rfl) (by kernel_rfl) (by kernel_rfl) (by kernel_rfl) hS5 (fun oi hoi => ?_)
  simp only [List.getElem?_toArray, List.getElem?_cons_succ, List.getElem?_cons_zero, Option.some.injEq] at hoi
  subst hoi
  refine ⟨?_, fun _ _ _ h => hpan _ _ _ _ _ h, Or.inl ⟨by rfl, ?_⟩, ?_⟩
  rotate_left
  · (intro w hSw; (try dsimp only at hSw); go_simp <;> with_reducible rfl)
  simp only [Act.put, List.setIfInBounds_toArray, List.set_cons_zero, List.set_cons_succ]
  refine take_at 13 (by kernel_rfl) (by kernel_rfl) (by kernel_rfl) (by kernel_rfl) hS5 (fun oi hoi => ?_)
  simp only [List.getElem?_toArray, List.getElem?_cons_succ, List.getElem?_cons_zero, Option.some.injEq] at hoi
  subst hoi
  refine ⟨?_, fun _ _ _ h => hpan _ _ _ _ _ h, Or.inl ⟨by rfl, ?_⟩, ?_⟩
  rotate_left
  · (intro w hSw; (try dsimp only at hSw); go_simp <;> with_reducible rfl)
  simp only [Act.put, List.setIfInBounds_toArray, List.set_cons_zero, List.set_cons_succ]
  refine take_at 14 (by kernel_rfl) (by kernel_rfl) (by kernel_rfl) (by kernel_rfl) hS5 (fun oi hoi => ?_)
  simp only [List.getElem?_toArray, List.getElem?_cons_succ, List.getElem?_cons_zero, Option.some.injEq] at hoi
  subst hoi
  refine ⟨?_, fun _ _ _ h => hpan _ _ _ _ _ h, Or.inl ⟨by rfl, ?_⟩, ?_⟩
  rotate_left
  · (intro w hSw; (try dsimp only at hSw); go_simp <;> with_reducible rfl)
  simp only [Act.put, List.setIfInBounds_toArray, List.set_cons_zero, List.set_cons_succ]
  refine take_at 15 (by kernel_rfl) (by kernel_rfl) (by kernel_rfl) (by kernel_rfl) hS5 (fun oi hoi => ?_)
  simp only [List.getElem?_toArray, List.getElem?_cons_succ, List.getElem?_cons_zero, Option.some.injEq] at hoi
  subst hoi
  refine ⟨undef, fun _ _ _ h => hpan _ _ _ _ _ h, Or.inr ⟨by rfl, rfl⟩, ?_⟩
  simp only [Act.put, List.setIfInBounds_toArray, List.set_cons_zero, List.set_cons_succ]
  refine take_at 16 (by kernel_rfl) (by kernel_rfl) (by kernel_rfl) (by kernel_rfl) hS5 (fun oi hoi => ?_)
  simp only [List.getElem?_toArray, List.getElem?_cons_succ, List.getElem?_cons_zero, Option.some.injEq] at hoi
  subst hoi
  refine ⟨undef, fun _ _ _ h => hpan _ _ _ _ _ h, Or.inr ⟨by rfl, rfl⟩, ?_⟩
  simp only [Act.put, List.setIfInBounds_toArray, List.set_cons_zero, List.set_cons_succ]
  refine take_at 17 (by kernel_rfl) (by kernel_rfl) (by kernel_rfl) (by kernel_rfl) hS5 (fun oi hoi => ?_)
  simp only [List.getElem?_toArray, List.getElem?_cons_succ, List.getElem?_cons_zero, Option.some.injEq] at hoi
  subst hoi
  refine ⟨undef, fun _ _ _ h => hpan _ _ _ _ _ h, Or.inr ⟨by rfl, rfl⟩, ?_⟩
  simp only [Act.put, List.setIfInBounds_toArray, List.set_cons_zero, List.set_cons_succ]
  refine take_at 18 (by kernel_rfl) (by kernel_rfl) (by kernel_rfl) (by kernel_rfl) hS5 (fun oi hoi => ?_)
  simp only [List.getElem?_toArray, List.getElem?_cons_succ, List.getElem?_cons_zero, Option.some.injEq] at hoi
  subst hoi
  refine ⟨undef, fun _ _ _ h => hpan _ _ _ _ _ h, Or.inr ⟨by rfl, rfl⟩, ?_⟩
  simp only [Act.put, List.setIfInBounds_toArray, List.set_cons_zero, List.set_cons_succ]
  refine take_at 19 (by kernel_rfl) (by kernel_rfl) (by kernel_rfl) (by kernel_rfl) hS5 (fun oi hoi => ?_)
  simp only [List.getElem?_toArray, List.getElem?_cons_succ, List.getElem?_cons_zero, Option.some.injEq] at hoi
  subst hoi
  refine ⟨undef, fun _ _ _ h => hpan _ _ _ _ _ h, Or.inr ⟨by rfl, rfl⟩, ?_⟩
  simp only [Act.put, List.setIfInBounds_toArray, List.set_cons_zero, List.set_cons_succ]
  refine take_at 20 (by kernel_rfl) (by kernel_rfl) (by kernel_rfl) (by kernel_rfl) hS5 (fun oi hoi => ?_)
  simp only [List.getElem?_toArray, List.getElem?_cons_succ, List.getElem?_cons_zero, Option.some.injEq] at hoi
  subst hoi
  refine ⟨undef, fun _ _ _ h => hpan _ _ _ _ _ h, Or.inr ⟨by rfl, rfl⟩, ?_⟩
  simp only [Act.put, List.setIfInBounds_toArray, List.set_cons_zero, List.set_cons_succ]
  refine take_at 21 (by kernel_rfl) (by kernel_rfl) (by kernel_rfl) (by kernel_rfl) hS5 (fun oi hoi => ?_)
  simp only [List.getElem?_toArray, List.getElem?_cons_succ, List.getElem?_cons_zero, Option.some.injEq] at hoi
  subst hoi
  refine ⟨undef, fun _ _ _ h => hpan _ _ _ _ _ h, Or.inr ⟨by rfl, rfl⟩, ?_⟩
  simp only [Act.put, List.setIfInBounds_toArray, List.set_cons_zero, List.set_cons_succ]
  refine take_at 22 (by kernel_rfl) (by kernel_rfl) (by kernel_rfl) (by kernel_rfl) hS5 (fun oi hoi => ?_)
  simp only [List.getElem?_toArray, List.getElem?_cons_succ, List.getElem?_cons_zero, Option.some.injEq] at hoi
  subst hoi
  refine ⟨undef, fun _ _ _ h => hpan _ _ _ _ _ h, Or.inr ⟨by rfl, rfl⟩, ?_⟩
  simp only [Act.put, List.setIfInBounds_toArray, List.set_cons_zero, List.set_cons_succ]
  refine take_at 23 (by kernel_rfl) (by kernel_rfl) (by kernel_rfl) (by kernel_rfl) hS5 (fun oi hoi => ?_)
  simp only [List.getElem?_toArray, List.getElem?_cons_succ, List.getElem?_cons_zero, Option.some.injEq] at hoi
  subst hoi
  refine ⟨undef, fun _ _ _ h => hpan _ _ _ _ _ h, Or.inr ⟨by rfl, rfl⟩, ?_⟩
  simp only [Act.put, List.setIfInBounds_toArray, List.set_cons_zero, List.set_cons_succ]
  refine take_at 24 (by kernel_rfl) (by kernel_rfl) (by kernel_rfl) (by kernel_rfl) hS5 (fun oi hoi => ?_)
  simp only [List.getElem?_toArray, List.getElem?_cons_succ, List.getElem?_cons_zero, Option.some.injEq] at hoi
  subst hoi
  refine ⟨undef, fun _ _ _ h => hpan _ _ _ _ _ h, Or.inr ⟨by rfl, rfl⟩, ?_⟩
  simp only [Act.put, List.setIfInBounds_toArray, List.set_cons_zero, List.set_cons_succ]
  refine take_at 25 (by kernel_rfl) (by kernel_rfl) (by kernel_rfl) (by kernel_rfl) hS5 (fun oi hoi => ?_)
  simp only [List.getElem?_toArray, List.getElem?_cons_succ, List.getElem?_cons_zero, Option.some.injEq] at hoi
  subst hoi
  refine ⟨undef, fun _ _ _ h => hpan _ _ _ _ _ h, Or.inr ⟨by rfl, rfl⟩, ?_⟩
  simp only [Act.put, List.setIfInBounds_toArray, List.set_cons_zero, List.set_cons_succ]
  refine take_at 26 (by kernel_rfl) (by kernel_rfl) (by kernel_rfl) (by kernel_rfl) hS5 (fun oi hoi => ?_)
  simp only [List.getElem?_toArray, List.getElem?_cons_succ, List.getElem?_cons_zero, Option.some.injEq] at hoi
  subst hoi
  refine ⟨?_, fun _ _ _ h => hpan _ _ _ _ _ h, Or.inl ⟨by rfl, ?_⟩, ?_⟩
  rotate_left
  · (intro w hSw; (try dsimp only at hSw); go_simp <;> with_reducible rfl)
  simp only [Act.put, List.setIfInBounds_toArray, List.set_cons_zero, List.set_cons_succ]
  refine take_at 27 (by kernel_rfl) (by kernel_rfl) (by kernel_rfl) (by kernel_rfl) hS5 (fun oi hoi => ?_)
  simp only [List.getElem?_toArray, List.getElem?_cons_succ, List.getElem?_cons_zero, Option.some.injEq] at hoi
  subst hoi
  refine ⟨?_, fun _ _ _ h => hpan _ _ _ _ _ h, Or.inl ⟨by rfl, ?_⟩, ?_⟩
  rotate_left
  · (intro w hSw; (try dsimp only at hSw); go_simp <;> with_reducible rfl)
  simp only [Act.put, List.setIfInBounds_toArray, List.set_cons_zero, List.set_cons_succ]
  refine wpAnyH_done (by kernel_rfl) ?_ _
  exact hK.out _ _ _ _ _ _ _ _ _ _ _ _ _ _ _ _ _ _ _ _ _ _ _ _ _ _ _ w3 HR.out

set_option linter.unusedSimpArgs false in
set_option maxHeartbeats 1600000 in
set_option maxRecDepth 1000000 in
theorem r17_second (w0 : World) (R S d n : Nat) (D : Nat → Int) (x : Addr) (p : Nat) (w : World) (hg : w0.cell? ⟨0, 0, none⟩ = some (eofV x)) (HA : Hid (At w0 R S d n D x p w)) (hp : p < n) (hq : (D p == 43) = false) (hq2 : (D p == 45) = true) (Q : Exit → Act → World → Prop) (hpan : ∀ (c : _) (a : Act) (d : Option Tmp) (v : Value) (w : World), Q (.panic c) (a.put d v) w → Q (.panic c) a w)
    (c1 c2 c3 c4 c5 c6 c7 c8 c9 c10 c11 c12 c13 c14 c15 c16 c17 c18 c19 c20 c21 c22 c23 c24 c25 c26 c27 c28 c29 c30 c31 c32 c33 c34 c35 c36 c37 c38 c39 c40 c41 c42 c43 c44 c45 c46 c47 c48 c49 c50 c51 c52 c53 c54 c55 c56 c57 c58 c59 c60 c61 c62 c63 c64 c65 c66 c67 c68 c69 c70 c71 c72 c73 c74 c75 c76 c77 c78 c79 c80 c81 c82 c83 c84 c85 c86 c87 c88 c89 c90 c91 c92 c93 c94 c95 c96 c97 c98 c99 c100 c101 c102 c103 c104 c105 c106 c107 c108 c109 c110 c111 c112 c113 c114 c115 c116 c117 c118 c119 c120 c121 c122 c123 c124 c125 c126 c127 c128 c129 c130 c131 c132 c133 c134 c135 c136 c137 c138 c139 c140 c141 c142 c143 c144 c145 c146 c147 c148 c149 c150 c151 c152 c153 c154 c155 : Value) (hK : Hid (∀ (v114 v115 v116 v117 v118 v119 v120 v121 v122 v123 v124 v125 v126 v127 v128 v129 v130 v131 v132 v133 v134 v135 v136 v137 v138 v139 v140 : Value) (w' : World), Ready w0 R S d n D x p w' → Q .normal ⟨#[.pointer (some ⟨R, 0, none⟩), c1, c2, c3, c4, c5, c6, c7, c8, c9, c10, c11, c12, c13, c14, c15, c16, c17, c18, c19, c20, c21, c22, c23, c24, c25, c26, c27, c28, c29, c30, c31, c32, c33, c34, c35, c36, c37, c38, c39, c40, c41, c42, c43, c44, c45, c46, c47, c48, c49, c50, c51, c52, c53, c54, c55, c56, c57, c58, c59, c60, c61, c62, c63, c64, c65, c66, c67, c68, c69, c70, c71, c72, c73, c74, c75, c76, c77, c78, c79, c80, c81, c82, c83, c84, c85, c86, c87, c88, c89, c90, c91, c92, c93, c94, c95, c96, c97, c98, c99, c100, c101, c102, c103, c104, c105, c106, c107, c108, c109, c110, c111, c112, c113, v114, v115, v116, v117, v118, v119, v120, v121, v122, v123, v124, v125, v126, v127, v128, v129, v130, v131, v132, v133, v134, v135, v136, v137, v138, v139, v140, .bool true, c142, c143, c144, c145, c146, c147, c148, c149, c150, c151, c152, c153, c154, c155], []⟩ w')) :
    Code.wp Tryf.prog (regOf Tryf.f40 17) Q ⟨#[.pointer (some ⟨R, 0, none⟩), c1, c2, c3, c4, c5, c6, c7, c8, c9, c10, c11, c12, c13, c14, c15, c16, c17, c18, c19, c20, c21, c22, c23, c24, c25, c26, c27, c28, c29, c30, c31, c32, c33, c34, c35, c36, c37, c38, c39, c40, c41, c42, c43, c44, c45, c46, c47, c48, c49, c50, c51, c52, c53, c54, c55, c56, c57, c58, c59, c60, c61, c62, c63, c64, c65, c66, c67, c68, c69, c70, c71, c72, c73, c74, c75, c76, c77, c78, c79, c80, c81, c82, c83, c84, c85, c86, c87, c88, c89, c90, c91, c92, c93, c94, c95, c96, c97, c98, c99, c100, c101, c102, c103, c104, c105, c106, c107, c108, c109, c110, c111, c112, c113, c114, c115, c116, c117, c118, c119, c120, c121, c122, c123, c124, c125, c126, c127, c128, c129, c130, c131, c132, c133, c134, c135, c136, c137, c138, c139, c140, c141, c142, c143, c144, c145, c146, c147, c148, c149, c150, c151, c152, c153, c154, c155], []⟩ w := by
  change Code.wp Tryf.prog (.region _ _ _) _ _ _
  refine wp_region_any (by kernel_rfl) ?_
  change wpAny _ _ _ _ _ _ _ (World.drew _)
  refine wpAny_take (i := 0) (v := ?_) rfl (by kernel_rfl) (by kernel_rfl) (by kernel_rfl) (fun _ _ _ h => hpan _ _ _ _ _ h) (Or.inl ⟨by rfl, ?_⟩) ?_
  rotate_left
  · (intro w; go_simp <;> with_reducible rfl)
  simp only [Act.put, List.setIfInBounds_toArray, List.set_cons_zero, List.set_cons_succ]
  refine wpAny_ready (rs := [1]) (by kernel_rfl) (by simp) ?_
  refine AllReady.cons rfl (fun K hK => ?_) AllReady.nil
  go_simp
  refine (need_yes w0 R S d n D x p _ ?_ hg hp).mono ?_
  · exact HA.out.keep (Chg.refl _ _).drew
  rintro e w3 ⟨rfl, hR⟩
  have HR := hid hR
  obtain ⟨B, L, pos, lk⟩ := hR.look
  have h1 := lk.h1
  have h2 := lk.h2
  have hbb := lk.hb
  have b1 := lk.lt
  have b2 := lk.le
  clear lk hR
  go_wp2
  refine wpAny_of_held (S := fun w' => w'.cell? ⟨R, 1, none⟩ = some (.slice (some ⟨B, 0, none⟩) L L) ∧ w'.cell? ⟨R, 2, none⟩ = some (.int .i64 pos) ∧ w'.cell? ⟨B, pos, none⟩ = some (.int .u8 (D p))) _ _ _ _ ?_
  have hS5 := And.intro h1 (And.intro h2 hbb)
  refine take_at 2 (by kernel_rfl) (by kernel_rfl) (by kernel_rfl) (by kernel_rfl) hS5 (fun oi hoi => ?_)
  simp only [List.getElem?_toArray, List.getElem?_cons_succ, List.getElem?_cons_zero, Option.some.injEq] at hoi
  subst hoi
  refine ⟨?_, fun _ _ _ h => hpan _ _ _ _ _ h, Or.inl ⟨by rfl, ?_⟩, ?_⟩
  rotate_left
  · (intro w hSw; (try dsimp only at hSw); go_simp <;> with_reducible rfl)
  simp only [Act.put, List.setIfInBounds_toArray, List.set_cons_zero, List.set_cons_succ]
  refine take_at 3 (by kernel_rfl) (by kernel_rfl) (by kernel_rfl) (by kernel_rfl) hS5 (fun oi hoi => ?_)
  simp only [List.getElem?_toArray, List.getElem?_cons_succ, List.getElem?_cons_zero, Option.some.injEq] at hoi
  subst hoi
  refine ⟨?_, fun _ _ _ h => hpan _ _ _ _ _ h, Or.inl ⟨by rfl, ?_⟩, ?_⟩
  rotate_left
  · (intro w hSw; (try dsimp only at hSw); go_simp <;> with_reducible rfl)
  simp only [Act.put, List.setIfInBounds_toArray, List.set_cons_zero, List.set_cons_succ]
  refine take_at 4 (by kernel_rfl) (by kernel_rfl) (by kernel_rfl) (by kernel_rfl) hS5 (fun oi hoi => ?_)
  simp only [List.getElem?_toArray, List.getElem?_cons_succ, List.getElem?_cons_zero, Option.some.injEq] at hoi
  subst hoi
  refine ⟨?_, fun _ _ _ h => hpan _ _ _ _ _ h, Or.inl ⟨by rfl, ?_⟩, ?_⟩
  rotate_left
  · (intro w hSw; (try dsimp only at hSw); go_simp <;> with_reducible rfl)
  simp only [Act.put, List.setIfInBounds_toArray, List.set_cons_zero, List.set_cons_succ]
  refine take_at 5 (by kernel_rfl) (by kernel_rfl) (by kernel_rfl) (by kernel_rfl) hS5 (fun oi hoi => ?_)
  simp only [List.getElem?_toArray, List.getElem?_cons_succ, List.getElem?_cons_zero, Option.some.injEq] at hoi
  subst hoi
  refine ⟨?_, fun _ _ _ h => hpan _ _ _ _ _ h, Or.inl ⟨by rfl, ?_⟩, ?_⟩
  rotate_left
  · (intro w hSw; (try dsimp only at hSw); go_simp <;> with_reducible rfl)
  simp only [Act.put, List.setIfInBounds_toArray, List.set_cons_zero, List.set_cons_succ]
  refine take_at 6 (by kernel_rfl) (by kernel_rfl) (by kernel_rfl) (by kernel_rfl) hS5 (fun oi hoi => ?_)
  simp only [List.getElem?_toArray, List.getElem?_cons_succ, List.getElem?_cons_zero, Option.some.injEq] at hoi
  subst hoi
  refine ⟨?_, fun _ _ _ h => hpan _ _ _ _ _ h, Or.inl ⟨by rfl, ?_⟩, ?_⟩
  rotate_left
  · (intro w hSw; (try dsimp only at hSw); go_simp <;> with_reducible rfl)
  simp only [Act.put, List.setIfInBounds_toArray, List.set_cons_zero, List.set_cons_succ]
  refine take_at 7 (by kernel_rfl) (by kernel_rfl) (by kernel_rfl) (by kernel_rfl) hS5 (fun oi hoi => ?_)
  simp only [List.getElem?_toArray, List.getElem?_cons_succ, List.getElem?_cons_zero, Option.some.injEq] at hoi
  subst hoi
  refine ⟨?_, fun _ _ _ h => hpan _ _ _ _ _ h, Or.inl ⟨by rfl, ?_⟩, ?_⟩
  rotate_left
  · (intro w hSw; (try dsimp only at hSw); go_simp <;> with_reducible rfl)
  simp only [Act.put, List.setIfInBounds_toArray, List.set_cons_zero, List.set_cons_succ]
  refine take_at 8 (by kernel_rfl) (by kernel_rfl) (by kernel_rfl) (by kernel_rfl) hS5 (fun oi hoi => ?_)
  simp only [List.getElem?_toArray, List.getElem?_cons_succ, List.getElem?_cons_zero, Option.some.injEq] at hoi
  subst hoi
  refine ⟨?_, fun _ _ _ h => hpan _ _ _ _ _ h, Or.inl ⟨by rfl, ?_⟩, ?_⟩
  rotate_left
  · (intro w hSw; (try dsimp only at hSw); go_simp <;> with_reducible rfl)
  simp only [Act.put, List.setIfInBounds_toArray, List.set_cons_zero, List.set_cons_succ]
  refine take_at 9 (by kernel_rfl) (by kernel_rfl) (by kernel_rfl) (by kernel_rfl) hS5 (fun oi hoi => ?_)
  simp only [List.getElem?_toArray, List.getElem?_cons_succ, List.getElem?_cons_zero, Option.some.injEq] at hoi
  subst hoi
  refine ⟨?_, fun _ _ _ h => hpan _ _ _ _ _ h, Or.inl ⟨by rfl, ?_⟩, ?_⟩
  rotate_left
  · (intro w hSw; (try dsimp only at hSw); go_simp <;> with_reducible rfl)
  simp only [Act.put, List.setIfInBounds_toArray, List.set_cons_zero, List.set_cons_succ]
  refine take_at 10 (by kernel_rfl) (by kernel_rfl) (by kernel_rfl) (by kernel_rfl) hS5 (fun oi hoi => ?_)
  simp only [List.getElem?_toArray, List.getElem?_cons_succ, List.getElem?_cons_zero, Option.some.injEq] at hoi
  subst hoi
  refine ⟨?_, fun _ _ _ h => hpan _ _ _ _ _ h, Or.inl ⟨by rfl, ?_⟩, ?_⟩
  rotate_left
  · (intro w hSw; (try dsimp only at hSw); go_simp <;> with_reducible rfl)
  simp only [Act.put, List.setIfInBounds_toArray, List.set_cons_zero, List.set_cons_succ]
  refine take_at 11 (by kernel_rfl) (by kernel_rfl) (by kernel_rfl) (by kernel_rfl) hS5 (fun oi hoi => ?_)
  simp only [List.getElem?_toArray, List.getElem?_cons_succ, List.getElem?_cons_zero, Option.some.injEq] at hoi
  subst hoi
  refine ⟨?_, fun _ _ _ h => hpan _ _ _ _ _ h, Or.inl ⟨by rfl, ?_⟩, ?_⟩
  rotate_left
  · (intro w hSw; (try dsimp only at hSw); go_simp <;> with_reducible rfl)
  simp only [Act.put, List.setIfInBounds_toArray, List.set_cons_zero, List.set_cons_succ]
  refine take_at 12 (by kernel_rfl) (by kernel_rfl) (by kernel_rfl) (by kernel_rfl) hS5 (fun oi hoi => ?_)
  simp only [List.getElem?_toArray, List.getElem?_cons_succ, List.getElem?_cons_zero, Option.some.injEq] at hoi
  subst hoi
  refine ⟨?_, fun _ _ _ h => hpan _ _ _ _ _ h, Or.inl ⟨by rfl, ?_⟩, ?_⟩
  rotate_left
  · (intro w hSw; (try dsimp only at hSw); go_simp <;> with_reducible rfl)
  simp only [Act.put, List.setIfInBounds_toArray, List.set_cons_zero, List.set_cons_succ]
  refine take_at 13 (by kernel_rfl) (by kernel_rfl) (by kernel_rfl) (by kernel_rfl) hS5 (fun oi hoi => ?_)
  simp only [List.getElem?_toArray, List.getElem?_cons_succ, List.getElem?_cons_zero, Option.some.injEq] at hoi
  subst hoi
  refine ⟨?_, fun _ _ _ h => hpan _ _ _ _ _ h, Or.inl ⟨by rfl, ?_⟩, ?_⟩
  rotate_left
  · (intro w hSw; (try dsimp only at hSw); go_simp <;> with_reducible rfl)
  simp only [Act.put, List.setIfInBounds_toArray, List.set_cons_zero, List.set_cons_succ]
  refine take_at 14 (by kernel_rfl) (by kernel_rfl) (by kernel_rfl) (by kernel_rfl) hS5 (fun oi hoi => ?_)
  simp only [List.getElem?_toArray, List.getElem?_cons_succ, List.getElem?_cons_zero, Option.some.injEq] at hoi
  subst hoi
  refine ⟨?_, fun _ _ _ h => hpan _ _ _ _ _ h, Or.inl ⟨by rfl, ?_⟩, ?_⟩
  rotate_left
  · (intro w hSw; (try dsimp only at hSw); go_simp <;> with_reducible rfl)
  simp only [Act.put, List.setIfInBounds_toArray, List.set_cons_zero, List.set_cons_succ]
  refine take_at 15 (by kernel_rfl) (by kernel_rfl) (by kernel_rfl) (by kernel_rfl) hS5 (fun oi hoi => ?_)
  simp only [List.getElem?_toArray, List.getElem?_cons_succ, List.getElem?_cons_zero, Option.some.injEq] at hoi
  subst hoi
  refine ⟨?_, fun _ _ _ h => hpan _ _ _ _ _ h, Or.inl ⟨by rfl, ?_⟩, ?_⟩
  rotate_left
  · (intro w hSw; (try dsimp only at hSw); go_simp <;> with_reducible rfl)
  simp only [Act.put, List.setIfInBounds_toArray, List.set_cons_zero, List.set_cons_succ]
  refine take_at 16 (by kernel_rfl) (by kernel_rfl) (by kernel_rfl) (by kernel_rfl) hS5 (fun oi hoi => ?_)
  simp only [List.getElem?_toArray, List.getElem?_cons_succ, List.getElem?_cons_zero, Option.some.injEq] at hoi
  subst hoi
  refine ⟨?_, fun _ _ _ h => hpan _ _ _ _ _ h, Or.inl ⟨by rfl, ?_⟩, ?_⟩
  rotate_left
  · (intro w hSw; (try dsimp only at hSw); go_simp <;> with_reducible rfl)
  simp only [Act.put, List.setIfInBounds_toArray, List.set_cons_zero, List.set_cons_succ]
  refine take_at 17 (by kernel_rfl) (by kernel_rfl) (by kernel_rfl) (by kernel_rfl) hS5 (fun oi hoi => ?_)
  simp only [List.getElem?_toArray, List.getElem?_cons_succ, List.getElem?_cons_zero, Option.some.injEq] at hoi
  subst hoi
  refine ⟨?_, fun _ _ _ h => hpan _ _ _ _ _ h, Or.inl ⟨by rfl, ?_⟩, ?_⟩
  rotate_left
  · (intro w hSw; (try dsimp only at hSw); go_simp <;> with_reducible rfl)
  simp only [Act.put, List.setIfInBounds_toArray, List.set_cons_zero, List.set_cons_succ]
  refine take_at 18 (by kernel_rfl) (by kernel_rfl) (by kernel_rfl) (by kernel_rfl) hS5 (fun oi hoi => ?_)
  simp only [List.getElem?_toArray, List.getElem?_cons_succ, List.getElem?_cons_zero, Option.some.injEq] at hoi
  subst hoi
  refine ⟨?_, fun _ _ _ h => hpan _ _ _ _ _ h, Or.inl ⟨by rfl, ?_⟩, ?_⟩
  rotate_left
  · (intro w hSw; (try dsimp only at hSw); go_simp <;> with_reducible rfl)
  simp only [Act.put, List.setIfInBounds_toArray, List.set_cons_zero, List.set_cons_succ]
  refine take_at 19 (by kernel_rfl) (by kernel_rfl) (by kernel_rfl) (by kernel_rfl) hS5 (fun oi hoi => ?_)
  simp only [List.getElem?_toArray, List.getElem?_cons_succ, List.getElem?_cons_zero, Option.some.injEq] at hoi
  subst hoi
  refine ⟨?_, fun _ _ _ h => hpan _ _ _ _ _ h, Or.inl ⟨by rfl, ?_⟩, ?_⟩
  rotate_left
  · (intro w hSw; (try dsimp only at hSw); go_simp <;> with_reducible rfl)
  simp only [Act.put, List.setIfInBounds_toArray, List.set_cons_zero, List.set_cons_succ]
  refine take_at 20 (by kernel_rfl) (by kernel_rfl) (by kernel_rfl) (by kernel_rfl) hS5 (fun oi hoi => ?_)
  simp only [List.getElem?_toArray, List.getElem?_cons_succ, List.getElem?_cons_zero, Option.some.injEq] at hoi
  subst hoi
  refine ⟨?_, fun _ _ _ h => hpan _ _ _ _ _ h, Or.inl ⟨by rfl, ?_⟩, ?_⟩
  rotate_left
  · (intro w hSw; (try dsimp only at hSw); go_simp <;> with_reducible rfl)
  simp only [Act.put, List.setIfInBounds_toArray, List.set_cons_zero, List.set_cons_succ]
  refine take_at 21 (by kernel_rfl) (by kernel_rfl) (by kernel_rfl) (by kernel_rfl) hS5 (fun oi hoi => ?_)
  simp only [List.getElem?_toArray, List.getElem?_cons_succ, List.getElem?_cons_zero, Option.some.injEq] at hoi
  subst hoi
  refine ⟨?_, fun _ _ _ h => hpan _ _ _ _ _ h, Or.inl ⟨by rfl, ?_⟩, ?_⟩
  rotate_left
  · (intro w hSw; (try dsimp only at hSw); go_simp <;> with_reducible rfl)
  simp only [Act.put, List.setIfInBounds_toArray, List.set_cons_zero, List.set_cons_succ]
  refine take_at 22 (by kernel_rfl) (by kernel_rfl) (by kernel_rfl) (by kernel_rfl) hS5 (fun oi hoi => ?_)
  simp only [List.getElem?_toArray, List.getElem?_cons_succ, List.getElem?_cons_zero, Option.some.injEq] at hoi
  subst hoi
  refine ⟨?_, fun _ _ _ h => hpan _ _ _ _ _ h, Or.inl ⟨by rfl, ?_⟩, ?_⟩
  rotate_left
  · (intro w hSw; (try dsimp only at hSw); go_simp <;> with_reducible rfl)
  simp only [Act.put, List.setIfInBounds_toArray, List.set_cons_zero, List.set_cons_succ]
  refine take_at 23 (by kernel_rfl) (by kernel_rfl) (by kernel_rfl) (by kernel_rfl) hS5 (fun oi hoi => ?_)
  simp only [List.getElem?_toArray, List.getElem?_cons_succ, List.getElem?_cons_zero, Option.some.injEq] at hoi
  subst hoi
  refine ⟨?_, fun _ _ _ h => hpan _ _ _ _ _ h, Or.inl ⟨by rfl, ?_⟩, ?_⟩
  rotate_left
  · (intro w hSw; (try dsimp only at hSw); go_simp <;> with_reducible rfl)
  simp only [Act.put, List.setIfInBounds_toArray, List.set_cons_zero, List.set_cons_succ]
  refine take_at 24 (by kernel_rfl) (by kernel_rfl) (by kernel_rfl) (by kernel_rfl) hS5 (fun oi hoi => ?_)
  simp only [List.getElem?_toArray, List.getElem?_cons_succ, List.getElem?_cons_zero, Option.some.injEq] at hoi
  subst hoi
  refine ⟨?_, fun _ _ _ h => hpan _ _ _ _ _ h, Or.inl ⟨by rfl, ?_⟩, ?_⟩
  rotate_left
  · (intro w hSw; (try dsimp only at hSw); go_simp <;> with_reducible rfl)
  simp only [Act.put, List.setIfInBounds_toArray, List.set_cons_zero, List.set_cons_succ]
  refine take_at 25 (by kernel_rfl) (by kernel_rfl) (by kernel_rfl) (by kernel_rfl) hS5 (fun oi hoi => ?_)
  simp only [List.getElem?_toArray, List.getElem?_cons_succ, List.getElem?_cons_zero, Option.some.injEq] at hoi
  subst hoi
  refine ⟨?_, fun _ _ _ h => hpan _ _ _ _ _ h, Or.inl ⟨by rfl, ?_⟩, ?_⟩
  rotate_left
  · (intro w hSw; (try dsimp only at hSw); go_simp <;> with_reducible rfl)
  simp only [Act.put, List.setIfInBounds_toArray, List.set_cons_zero, List.set_cons_succ]
  refine take_at 26 (by kernel_rfl) (by kernel_rfl) (by kernel_rfl) (by kernel_rfl) hS5 (fun oi hoi => ?_)
  simp only [List.getElem?_toArray, List.getElem?_cons_succ, List.getElem?_cons_zero, Option.some.injEq] at hoi
  subst hoi
  refine ⟨?_, fun _ _ _ h => hpan _ _ _ _ _ h, Or.inl ⟨by rfl, ?_⟩, ?_⟩
  rotate_left
  · (intro w hSw; (try dsimp only at hSw); go_simp <;> with_reducible rfl)
  simp only [Act.put, List.setIfInBounds_toArray, List.set_cons_zero, List.set_cons_succ]
  refine take_at 27 (by kernel_rfl) (by kernel_rfl) (by kernel_rfl) (by kernel_rfl) hS5 (fun oi hoi => ?_)
  simp only [List.getElem?_toArray, List.getElem?_cons_succ, List.getElem?_cons_zero, Option.some.injEq] at hoi
  subst hoi
  refine ⟨?_, fun _ _ _ h => hpan _ _ _ _ _ h, Or.inl ⟨by rfl, ?_⟩, ?_⟩
  rotate_left
  · (intro w hSw; (try dsimp only at hSw); go_simp <;> with_reducible rfl)
  simp only [Act.put, List.setIfInBounds_toArray, List.set_cons_zero, List.set_cons_succ]
  refine wpAnyH_done (by kernel_rfl) ?_ _
  exact hK.out _ _ _ _ _ _ _ _ _ _ _ _ _ _ _ _ _ _ _ _ _ _ _ _ _ _ _ w3 HR.out

set_option linter.unusedSimpArgs false in
set_option maxHeartbeats 1600000 in
set_option maxRecDepth 1000000 in
theorem r17_other (w0 : World) (R S d n : Nat) (D : Nat → Int) (x : Addr) (p : Nat) (w : World) (hg : w0.cell? ⟨0, 0, none⟩ = some (eofV x)) (HA : Hid (At w0 R S d n D x p w)) (hp : p < n) (hq : (D p == 43) = false) (hq2 : (D p == 45) = false) (Q : Exit → Act → World → Prop) (hpan : ∀ (c : _) (a : Act) (d : Option Tmp) (v : Value) (w : World), Q (.panic c) (a.put d v) w → Q (.panic c) a w)
    (c1 c2 c3 c4 c5 c6 c7 c8 c9 c10 c11 c12 c13 c14 c15 c16 c17 c18 c19 c20 c21 c22 c23 c24 c25 c26 c27 c28 c29 c30 c31 c32 c33 c34 c35 c36 c37 c38 c39 c40 c41 c42 c43 c44 c45 c46 c47 c48 c49 c50 c51 c52 c53 c54 c55 c56 c57 c58 c59 c60 c61 c62 c63 c64 c65 c66 c67 c68 c69 c70 c71 c72 c73 c74 c75 c76 c77 c78 c79 c80 c81 c82 c83 c84 c85 c86 c87 c88 c89 c90 c91 c92 c93 c94 c95 c96 c97 c98 c99 c100 c101 c102 c103 c104 c105 c106 c107 c108 c109 c110 c111 c112 c113 c114 c115 c116 c117 c118 c119 c120 c121 c122 c123 c124 c125 c126 c127 c128 c129 c130 c131 c132 c133 c134 c135 c136 c137 c138 c139 c140 c141 c142 c143 c144 c145 c146 c147 c148 c149 c150 c151 c152 c153 c154 c155 : Value) (hK : Hid (∀ (v114 v115 v116 v117 v118 v119 v120 v121 v122 v123 v124 v125 v126 v127 v128 v129 v130 v131 v132 v133 v134 v135 v136 v137 v138 v139 v140 : Value) (w' : World), Ready w0 R S d n D x p w' → Q .normal ⟨#[.pointer (some ⟨R, 0, none⟩), c1, c2, c3, c4, c5, c6, c7, c8, c9, c10, c11, c12, c13, c14, c15, c16, c17, c18, c19, c20, c21, c22, c23, c24, c25, c26, c27, c28, c29, c30, c31, c32, c33, c34, c35, c36, c37, c38, c39, c40, c41, c42, c43, c44, c45, c46, c47, c48, c49, c50, c51, c52, c53, c54, c55, c56, c57, c58, c59, c60, c61, c62, c63, c64, c65, c66, c67, c68, c69, c70, c71, c72, c73, c74, c75, c76, c77, c78, c79, c80, c81, c82, c83, c84, c85, c86, c87, c88, c89, c90, c91, c92, c93, c94, c95, c96, c97, c98, c99, c100, c101, c102, c103, c104, c105, c106, c107, c108, c109, c110, c111, c112, c113, v114, v115, v116, v117, v118, v119, v120, v121, v122, v123, v124, v125, v126, v127, v128, v129, v130, v131, v132, v133, v134, v135, v136, v137, v138, v139, v140, .bool false, c142, c143, c144, c145, c146, c147, c148, c149, c150, c151, c152, c153, c154, c155], []⟩ w')) :
    Code.wp Tryf.prog (regOf Tryf.f40 17) Q ⟨#[.pointer (some ⟨R, 0, none⟩), c1, c2, c3, c4, c5, c6, c7, c8, c9, c10, c11, c12, c13, c14, c15, c16, c17, c18, c19, c20, c21, c22, c23, c24, c25, c26, c27, c28, c29, c30, c31, c32, c33, c34, c35, c36, c37, c38, c39, c40, c41, c42, c43, c44, c45, c46, c47, c48, c49, c50, c51, c52, c53, c54, c55, c56, c57, c58, c59, c60, c61, c62, c63, c64, c65, c66, c67, c68, c69, c70, c71, c72, c73, c74, c75, c76, c77, c78, c79, c80, c81, c82, c83, c84, c85, c86, c87, c88, c89, c90, c91, c92, c93, c94, c95, c96, c97, c98, c99, c100, c101, c102, c103, c104, c105, c106, c107, c108, c109, c110, c111, c112, c113, c114, c115, c116, c117, c118, c119, c120, c121, c122, c123, c124, c125, c126, c127, c128, c129, c130, c131, c132, c133, c134, c135, c136, c137, c138, c139, c140, c141, c142, c143, c144, c145, c146, c147, c148, c149, c150, c151, c152, c153, c154, c155], []⟩ w := by
  change Code.wp Tryf.prog (.region _ _ _) _ _ _
  refine wp_region_any (by kernel_rfl) ?_
  change wpAny _ _ _ _ _ _ _ (World.drew _)
  refine wpAny_take (i := 0) (v := ?_) rfl (by kernel_rfl) (by kernel_rfl) (by kernel_rfl) (fun _ _ _ h => hpan _ _ _ _ _ h) (Or.inl ⟨by rfl, ?_⟩) ?_
  rotate_left
  · (intro w; go_simp <;> with_reducible rfl)
  simp only [Act.put, List.setIfInBounds_toArray, List.set_cons_zero, List.set_cons_succ]
  refine wpAny_ready (rs := [1]) (by kernel_rfl) (by simp) ?_
  refine AllReady.cons rfl (fun K hK => ?_) AllReady.nil
  go_simp
  refine (need_yes w0 R S d n D x p _ ?_ hg hp).mono ?_
  · exact HA.out.keep (Chg.refl _ _).drew
  rintro e w3 ⟨rfl, hR⟩
  have HR := hid hR
  obtain ⟨B, L, pos, lk⟩ := hR.look
  have h1 := lk.h1
  have h2 := lk.h2
  have hbb := lk.hb
  have b1 := lk.lt
  have b2 := lk.le
  clear lk hR
  go_wp2
  refine wpAny_of_held (S := fun w' => w'.cell? ⟨R, 1, none⟩ = some (.slice (some ⟨B, 0, none⟩) L L) ∧ w'.cell? ⟨R, 2, none⟩ = some (.int .i64 pos) ∧ w'.cell? ⟨B, pos, none⟩ = some (.int .u8 (D p))) _ _ _ _ ?_
  have hS5 := And.intro h1 (And.intro h2 hbb)
  refine take_at 2 (by kernel_rfl) (by kernel_rfl) (by kernel_rfl) (by kernel_rfl) hS5 (fun oi hoi => ?_)
  simp only [List.getElem?_toArray, List.getElem?_cons_succ, List.getElem?_cons_zero, Option.some.injEq] at hoi
  subst hoi
  refine ⟨?_, fun _ _ _ h => hpan _ _ _ _ _ h, Or.inl ⟨by rfl, ?_⟩, ?_⟩
  rotate_left
  · (intro w hSw; (try dsimp only at hSw); go_simp <;> with_reducible rfl)
  simp only [Act.put, List.setIfInBounds_toArray, List.set_cons_zero, List.set_cons_succ]
  refine take_at 3 (by kernel_rfl) (by kernel_rfl) (by kernel_rfl) (by kernel_rfl) hS5 (fun oi hoi => ?_)
  simp only [List.getElem?_toArray, List.getElem?_cons_succ, List.getElem?_cons_zero, Option.some.injEq] at hoi
  subst hoi
  refine ⟨?_, fun _ _ _ h => hpan _ _ _ _ _ h, Or.inl ⟨by rfl, ?_⟩, ?_⟩
  rotate_left
  · (intro w hSw; (try dsimp only at hSw); go_simp <;> with_reducible rfl)
  simp only [Act.put, List.setIfInBounds_toArray, List.set_cons_zero, List.set_cons_succ]
  refine take_at 4 (by kernel_rfl) (by kernel_rfl) (by kernel_rfl) (by kernel_rfl) hS5 (fun oi hoi => ?_)
  simp only [List.getElem?_toArray, List.getElem?_cons_succ, List.getElem?_cons_zero, Option.some.injEq] at hoi
  subst hoi
  refine ⟨?_, fun _ _ _ h => hpan _ _ _ _ _ h, Or.inl ⟨by rfl, ?_⟩, ?_⟩
  rotate_left
  · (intro w hSw; (try dsimp only at hSw); go_simp <;> with_reducible rfl)
  simp only [Act.put, List.setIfInBounds_toArray, List.set_cons_zero, List.set_cons_succ]
  refine take_at 5 (by kernel_rfl) (by kernel_rfl) (by kernel_rfl) (by kernel_rfl) hS5 (fun oi hoi => ?_)
  simp only [List.getElem?_toArray, List.getElem?_cons_succ, List.getElem?_cons_zero, Option.some.injEq] at hoi
  subst hoi
  refine ⟨?_, fun _ _ _ h => hpan _ _ _ _ _ h, Or.inl ⟨by rfl, ?_⟩, ?_⟩
  rotate_left
  · (intro w hSw; (try dsimp only at hSw); go_simp <;> with_reducible rfl)
  simp only [Act.put, List.setIfInBounds_toArray, List.set_cons_zero, List.set_cons_succ]
  refine take_at 6 (by kernel_rfl) (by kernel_rfl) (by kernel_rfl) (by kernel_rfl) hS5 (fun oi hoi => ?_)
  simp only [List.getElem?_toArray, List.getElem?_cons_succ, List.getElem?_cons_zero, Option.some.injEq] at hoi
  subst hoi
  refine ⟨?_, fun _ _ _ h => hpan _ _ _ _ _ h, Or.inl ⟨by rfl, ?_⟩, ?_⟩
  rotate_left
  · (intro w hSw; (try dsimp only at hSw); go_simp <;> with_reducible rfl)
  simp only [Act.put, List.setIfInBounds_toArray, List.set_cons_zero, List.set_cons_succ]
  refine take_at 7 (by kernel_rfl) (by kernel_rfl) (by kernel_rfl) (by kernel_rfl) hS5 (fun oi hoi => ?_)
  simp only [List.getElem?_toArray, List.getElem?_cons_succ, List.getElem?_cons_zero, Option.some.injEq] at hoi
  subst hoi
  refine ⟨?_, fun _ _ _ h => hpan _ _ _ _ _ h, Or.inl ⟨by rfl, ?_⟩, ?_⟩
  rotate_left
  · (intro w hSw; (try dsimp only at hSw); go_simp <;> with_reducible rfl)
  simp only [Act.put, List.setIfInBounds_toArray, List.set_cons_zero, List.set_cons_succ]
  refine take_at 8 (by kernel_rfl) (by kernel_rfl) (by kernel_rfl) (by kernel_rfl) hS5 (fun oi hoi => ?_)
  simp only [List.getElem?_toArray, List.getElem?_cons_succ, List.getElem?_cons_zero, Option.some.injEq] at hoi
  subst hoi
  refine ⟨?_, fun _ _ _ h => hpan _ _ _ _ _ h, Or.inl ⟨by rfl, ?_⟩, ?_⟩
  rotate_left
  · (intro w hSw; (try dsimp only at hSw); go_simp <;> with_reducible rfl)
  simp only [Act.put, List.setIfInBounds_toArray, List.set_cons_zero, List.set_cons_succ]
  refine take_at 9 (by kernel_rfl) (by kernel_rfl) (by kernel_rfl) (by kernel_rfl) hS5 (fun oi hoi => ?_)
  simp only [List.getElem?_toArray, List.getElem?_cons_succ, List.getElem?_cons_zero, Option.some.injEq] at hoi
  subst hoi
  refine ⟨?_, fun _ _ _ h => hpan _ _ _ _ _ h, Or.inl ⟨by rfl, ?_⟩, ?_⟩
  rotate_left
  · (intro w hSw; (try dsimp only at hSw); go_simp <;> with_reducible rfl)
  simp only [Act.put, List.setIfInBounds_toArray, List.set_cons_zero, List.set_cons_succ]
  refine take_at 10 (by kernel_rfl) (by kernel_rfl) (by kernel_rfl) (by kernel_rfl) hS5 (fun oi hoi => ?_)
  simp only [List.getElem?_toArray, List.getElem?_cons_succ, List.getElem?_cons_zero, Option.some.injEq] at hoi
  subst hoi
  refine ⟨?_, fun _ _ _ h => hpan _ _ _ _ _ h, Or.inl ⟨by rfl, ?_⟩, ?_⟩
  rotate_left
  · (intro w hSw; (try dsimp only at hSw); go_simp <;> with_reducible rfl)
  simp only [Act.put, List.setIfInBounds_toArray, List.set_cons_zero, List.set_cons_succ]
  refine take_at 11 (by kernel_rfl) (by kernel_rfl) (by kernel_rfl) (by kernel_rfl) hS5 (fun oi hoi => ?_)
  simp only [List.getElem?_toArray, List.getElem?_cons_succ, List.getElem?_cons_zero, Option.some.injEq] at hoi
  subst hoi
  refine ⟨?_, fun _ _ _ h => hpan _ _ _ _ _ h, Or.inl ⟨by rfl, ?_⟩, ?_⟩
  rotate_left
  · (intro w hSw; (try dsimp only at hSw); go_simp <;> with_reducible rfl)
  simp only [Act.put, List.setIfInBounds_toArray, List.set_cons_zero, List.set_cons_succ]
  refine take_at 12 (by kernel_rfl) (by kernel_rfl) (by kernel_rfl) (by kernel_rfl) hS5 (fun oi hoi => ?_)
  simp only [List.getElem?_toArray, List.getElem?_cons_succ, List.getElem?_cons_zero, Option.some.injEq] at hoi
  subst hoi
  refine ⟨?_, fun _ _ _ h => hpan _ _ _ _ _ h, Or.inl ⟨by rfl, ?_⟩, ?_⟩
  rotate_left
  · (intro w hSw; (try dsimp only at hSw); go_simp <;> with_reducible rfl)
  simp only [Act.put, List.setIfInBounds_toArray, List.set_cons_zero, List.set_cons_succ]
  refine take_at 13 (by kernel_rfl) (by kernel_rfl) (by kernel_rfl) (by kernel_rfl) hS5 (fun oi hoi => ?_)
  simp only [List.getElem?_toArray, List.getElem?_cons_succ, List.getElem?_cons_zero, Option.some.injEq] at hoi
  subst hoi
  refine ⟨?_, fun _ _ _ h => hpan _ _ _ _ _ h, Or.inl ⟨by rfl, ?_⟩, ?_⟩
  rotate_left
  · (intro w hSw; (try dsimp only at hSw); go_simp <;> with_reducible rfl)
  simp only [Act.put, List.setIfInBounds_toArray, List.set_cons_zero, List.set_cons_succ]
  refine take_at 14 (by kernel_rfl) (by kernel_rfl) (by kernel_rfl) (by kernel_rfl) hS5 (fun oi hoi => ?_)
  simp only [List.getElem?_toArray, List.getElem?_cons_succ, List.getElem?_cons_zero, Option.some.injEq] at hoi
  subst hoi
  refine ⟨?_, fun _ _ _ h => hpan _ _ _ _ _ h, Or.inl ⟨by rfl, ?_⟩, ?_⟩
  rotate_left
  · (intro w hSw; (try dsimp only at hSw); go_simp <;> with_reducible rfl)
  simp only [Act.put, List.setIfInBounds_toArray, List.set_cons_zero, List.set_cons_succ]
  refine take_at 15 (by kernel_rfl) (by kernel_rfl) (by kernel_rfl) (by kernel_rfl) hS5 (fun oi hoi => ?_)
  simp only [List.getElem?_toArray, List.getElem?_cons_succ, List.getElem?_cons_zero, Option.some.injEq] at hoi
  subst hoi
  refine ⟨?_, fun _ _ _ h => hpan _ _ _ _ _ h, Or.inl ⟨by rfl, ?_⟩, ?_⟩
  rotate_left
  · (intro w hSw; (try dsimp only at hSw); go_simp <;> with_reducible rfl)
  simp only [Act.put, List.setIfInBounds_toArray, List.set_cons_zero, List.set_cons_succ]
  refine take_at 16 (by kernel_rfl) (by kernel_rfl) (by kernel_rfl) (by kernel_rfl) hS5 (fun oi hoi => ?_)
  simp only [List.getElem?_toArray, List.getElem?_cons_succ, List.getElem?_cons_zero, Option.some.injEq] at hoi
  subst hoi
  refine ⟨?_, fun _ _ _ h => hpan _ _ _ _ _ h, Or.inl ⟨by rfl, ?_⟩, ?_⟩
  rotate_left
  · (intro w hSw; (try dsimp only at hSw); go_simp <;> with_reducible rfl)
  simp only [Act.put, List.setIfInBounds_toArray, List.set_cons_zero, List.set_cons_succ]
  refine take_at 17 (by kernel_rfl) (by kernel_rfl) (by kernel_rfl) (by kernel_rfl) hS5 (fun oi hoi => ?_)
  simp only [List.getElem?_toArray, List.getElem?_cons_succ, List.getElem?_cons_zero, Option.some.injEq] at hoi
  subst hoi
  refine ⟨?_, fun _ _ _ h => hpan _ _ _ _ _ h, Or.inl ⟨by rfl, ?_⟩, ?_⟩
  rotate_left
  · (intro w hSw; (try dsimp only at hSw); go_simp <;> with_reducible rfl)
  simp only [Act.put, List.setIfInBounds_toArray, List.set_cons_zero, List.set_cons_succ]
  refine take_at 18 (by kernel_rfl) (by kernel_rfl) (by kernel_rfl) (by kernel_rfl) hS5 (fun oi hoi => ?_)
  simp only [List.getElem?_toArray, List.getElem?_cons_succ, List.getElem?_cons_zero, Option.some.injEq] at hoi
  subst hoi
  refine ⟨?_, fun _ _ _ h => hpan _ _ _ _ _ h, Or.inl ⟨by rfl, ?_⟩, ?_⟩
  rotate_left
  · (intro w hSw; (try dsimp only at hSw); go_simp <;> with_reducible rfl)
  simp only [Act.put, List.setIfInBounds_toArray, List.set_cons_zero, List.set_cons_succ]
  refine take_at 19 (by kernel_rfl) (by kernel_rfl) (by kernel_rfl) (by kernel_rfl) hS5 (fun oi hoi => ?_)
  simp only [List.getElem?_toArray, List.getElem?_cons_succ, List.getElem?_cons_zero, Option.some.injEq] at hoi
  subst hoi
  refine ⟨?_, fun _ _ _ h => hpan _ _ _ _ _ h, Or.inl ⟨by rfl, ?_⟩, ?_⟩
  rotate_left
  · (intro w hSw; (try dsimp only at hSw); go_simp <;> with_reducible rfl)
  simp only [Act.put, List.setIfInBounds_toArray, List.set_cons_zero, List.set_cons_succ]
  refine take_at 20 (by kernel_rfl) (by kernel_rfl) (by kernel_rfl) (by kernel_rfl) hS5 (fun oi hoi => ?_)
  simp only [List.getElem?_toArray, List.getElem?_cons_succ, List.getElem?_cons_zero, Option.some.injEq] at hoi
  subst hoi
  refine ⟨?_, fun _ _ _ h => hpan _ _ _ _ _ h, Or.inl ⟨by rfl, ?_⟩, ?_⟩
  rotate_left
  · (intro w hSw; (try dsimp only at hSw); go_simp <;> with_reducible rfl)
  simp only [Act.put, List.setIfInBounds_toArray, List.set_cons_zero, List.set_cons_succ]
  refine take_at 21 (by kernel_rfl) (by kernel_rfl) (by kernel_rfl) (by kernel_rfl) hS5 (fun oi hoi => ?_)
  simp only [List.getElem?_toArray, List.getElem?_cons_succ, List.getElem?_cons_zero, Option.some.injEq] at hoi
  subst hoi
  refine ⟨?_, fun _ _ _ h => hpan _ _ _ _ _ h, Or.inl ⟨by rfl, ?_⟩, ?_⟩
  rotate_left
  · (intro w hSw; (try dsimp only at hSw); go_simp <;> with_reducible rfl)
  simp only [Act.put, List.setIfInBounds_toArray, List.set_cons_zero, List.set_cons_succ]
  refine take_at 22 (by kernel_rfl) (by kernel_rfl) (by kernel_rfl) (by kernel_rfl) hS5 (fun oi hoi => ?_)
  simp only [List.getElem?_toArray, List.getElem?_cons_succ, List.getElem?_cons_zero, Option.some.injEq] at hoi
  subst hoi
  refine ⟨?_, fun _ _ _ h => hpan _ _ _ _ _ h, Or.inl ⟨by rfl, ?_⟩, ?_⟩
  rotate_left
  · (intro w hSw; (try dsimp only at hSw); go_simp <;> with_reducible rfl)
  simp only [Act.put, List.setIfInBounds_toArray, List.set_cons_zero, List.set_cons_succ]
  refine take_at 23 (by kernel_rfl) (by kernel_rfl) (by kernel_rfl) (by kernel_rfl) hS5 (fun oi hoi => ?_)
  simp only [List.getElem?_toArray, List.getElem?_cons_succ, List.getElem?_cons_zero, Option.some.injEq] at hoi
  subst hoi
  refine ⟨?_, fun _ _ _ h => hpan _ _ _ _ _ h, Or.inl ⟨by rfl, ?_⟩, ?_⟩
  rotate_left
  · (intro w hSw; (try dsimp only at hSw); go_simp <;> with_reducible rfl)
  simp only [Act.put, List.setIfInBounds_toArray, List.set_cons_zero, List.set_cons_succ]
  refine take_at 24 (by kernel_rfl) (by kernel_rfl) (by kernel_rfl) (by kernel_rfl) hS5 (fun oi hoi => ?_)
  simp only [List.getElem?_toArray, List.getElem?_cons_succ, List.getElem?_cons_zero, Option.some.injEq] at hoi
  subst hoi
  refine ⟨?_, fun _ _ _ h => hpan _ _ _ _ _ h, Or.inl ⟨by rfl, ?_⟩, ?_⟩
  rotate_left
  · (intro w hSw; (try dsimp only at hSw); go_simp <;> with_reducible rfl)
  simp only [Act.put, List.setIfInBounds_toArray, List.set_cons_zero, List.set_cons_succ]
  refine take_at 25 (by kernel_rfl) (by kernel_rfl) (by kernel_rfl) (by kernel_rfl) hS5 (fun oi hoi => ?_)
  simp only [List.getElem?_toArray, List.getElem?_cons_succ, List.getElem?_cons_zero, Option.some.injEq] at hoi
  subst hoi
  refine ⟨?_, fun _ _ _ h => hpan _ _ _ _ _ h, Or.inl ⟨by rfl, ?_⟩, ?_⟩
  rotate_left
  · (intro w hSw; (try dsimp only at hSw); go_simp <;> with_reducible rfl)
  simp only [Act.put, List.setIfInBounds_toArray, List.set_cons_zero, List.set_cons_succ]
  refine take_at 26 (by kernel_rfl) (by kernel_rfl) (by kernel_rfl) (by kernel_rfl) hS5 (fun oi hoi => ?_)
  simp only [List.getElem?_toArray, List.getElem?_cons_succ, List.getElem?_cons_zero, Option.some.injEq] at hoi
  subst hoi
  refine ⟨?_, fun _ _ _ h => hpan _ _ _ _ _ h, Or.inl ⟨by rfl, ?_⟩, ?_⟩
  rotate_left
  · (intro w hSw; (try dsimp only at hSw); go_simp <;> with_reducible rfl)
  simp only [Act.put, List.setIfInBounds_toArray, List.set_cons_zero, List.set_cons_succ]
  refine take_at 27 (by kernel_rfl) (by kernel_rfl) (by kernel_rfl) (by kernel_rfl) hS5 (fun oi hoi => ?_)
  simp only [List.getElem?_toArray, List.getElem?_cons_succ, List.getElem?_cons_zero, Option.some.injEq] at hoi
  subst hoi
  refine ⟨?_, fun _ _ _ h => hpan _ _ _ _ _ h, Or.inl ⟨by rfl, ?_⟩, ?_⟩
  rotate_left
  · (intro w hSw; (try dsimp only at hSw); go_simp <;> with_reducible rfl)
  simp only [Act.put, List.setIfInBounds_toArray, List.set_cons_zero, List.set_cons_succ]
  refine wpAnyH_done (by kernel_rfl) ?_ _
  exact hK.out _ _ _ _ _ _ _ _ _ _ _ _ _ _ _ _ _ _ _ _ _ _ _ _ _ _ _ w3 HR.out

set_option linter.unusedSimpArgs false in
set_option maxHeartbeats 1600000 in
set_option maxRecDepth 1000000 in
theorem r17_no (w0 : World) (R S d n : Nat) (D : Nat → Int) (x : Addr) (p : Nat) (w : World) (hg : w0.cell? ⟨0, 0, none⟩ = some (eofV x)) (HA : Hid (At w0 R S d n D x p w)) (hp : ¬ p < n) (Q : Exit → Act → World → Prop) (hpan : ∀ (c : _) (a : Act) (d : Option Tmp) (v : Value) (w : World), Q (.panic c) (a.put d v) w → Q (.panic c) a w)
    (c1 c2 c3 c4 c5 c6 c7 c8 c9 c10 c11 c12 c13 c14 c15 c16 c17 c18 c19 c20 c21 c22 c23 c24 c25 c26 c27 c28 c29 c30 c31 c32 c33 c34 c35 c36 c37 c38 c39 c40 c41 c42 c43 c44 c45 c46 c47 c48 c49 c50 c51 c52 c53 c54 c55 c56 c57 c58 c59 c60 c61 c62 c63 c64 c65 c66 c67 c68 c69 c70 c71 c72 c73 c74 c75 c76 c77 c78 c79 c80 c81 c82 c83 c84 c85 c86 c87 c88 c89 c90 c91 c92 c93 c94 c95 c96 c97 c98 c99 c100 c101 c102 c103 c104 c105 c106 c107 c108 c109 c110 c111 c112 c113 c114 c115 c116 c117 c118 c119 c120 c121 c122 c123 c124 c125 c126 c127 c128 c129 c130 c131 c132 c133 c134 c135 c136 c137 c138 c139 c140 c141 c142 c143 c144 c145 c146 c147 c148 c149 c150 c151 c152 c153 c154 c155 : Value) (hK : Hid (∀ (v114 v115 v116 v117 v118 v119 v120 v121 v122 v123 v124 v125 v126 v127 v128 v129 v130 v131 v132 v133 v134 v135 v136 v137 v138 v139 v140 : Value) (w' : World), At w0 R S d n D x p w' → Q .normal ⟨#[.pointer (some ⟨R, 0, none⟩), c1, c2, c3, c4, c5, c6, c7, c8, c9, c10, c11, c12, c13, c14, c15, c16, c17, c18, c19, c20, c21, c22, c23, c24, c25, c26, c27, c28, c29, c30, c31, c32, c33, c34, c35, c36, c37, c38, c39, c40, c41, c42, c43, c44, c45, c46, c47, c48, c49, c50, c51, c52, c53, c54, c55, c56, c57, c58, c59, c60, c61, c62, c63, c64, c65, c66, c67, c68, c69, c70, c71, c72, c73, c74, c75, c76, c77, c78, c79, c80, c81, c82, c83, c84, c85, c86, c87, c88, c89, c90, c91, c92, c93, c94, c95, c96, c97, c98, c99, c100, c101, c102, c103, c104, c105, c106, c107, c108, c109, c110, c111, c112, c113, v114, v115, v116, v117, v118, v119, v120, v121, v122, v123, v124, v125, v126, v127, v128, v129, v130, v131, v132, v133, v134, v135, v136, v137, v138, v139, v140, .bool false, c142, c143, c144, c145, c146, c147, c148, c149, c150, c151, c152, c153, c154, c155], []⟩ w')) :
    Code.wp Tryf.prog (regOf Tryf.f40 17) Q ⟨#[.pointer (some ⟨R, 0, none⟩), c1, c2, c3, c4, c5, c6, c7, c8, c9, c10, c11, c12, c13, c14, c15, c16, c17, c18, c19, c20, c21, c22, c23, c24, c25, c26, c27, c28, c29, c30, c31, c32, c33, c34, c35, c36, c37, c38, c39, c40, c41, c42, c43, c44, c45, c46, c47, c48, c49, c50, c51, c52, c53, c54, c55, c56, c57, c58, c59, c60, c61, c62, c63, c64, c65, c66, c67, c68, c69, c70, c71, c72, c73, c74, c75, c76, c77, c78, c79, c80, c81, c82, c83, c84, c85, c86, c87, c88, c89, c90, c91, c92, c93, c94, c95, c96, c97, c98, c99, c100, c101, c102, c103, c104, c105, c106, c107, c108, c109, c110, c111, c112, c113, c114, c115, c116, c117, c118, c119, c120, c121, c122, c123, c124, c125, c126, c127, c128, c129, c130, c131, c132, c133, c134, c135, c136, c137, c138, c139, c140, c141, c142, c143, c144, c145, c146, c147, c148, c149, c150, c151, c152, c153, c154, c155], []⟩ w := by
  change Code.wp Tryf.prog (.region _ _ _) _ _ _
  refine wp_region_any (by kernel_rfl) ?_
  change wpAny _ _ _ _ _ _ _ (World.drew _)
  refine wpAny_take (i := 0) (v := ?_) rfl (by kernel_rfl) (by kernel_rfl) (by kernel_rfl) (fun _ _ _ h => hpan _ _ _ _ _ h) (Or.inl ⟨by rfl, ?_⟩) ?_
  rotate_left
  · (intro w; go_simp <;> with_reducible rfl)
  simp only [Act.put, List.setIfInBounds_toArray, List.set_cons_zero, List.set_cons_succ]
  refine wpAny_ready (rs := [1]) (by kernel_rfl) (by simp) ?_
  refine AllReady.cons rfl (fun K hK => ?_) AllReady.nil
  go_simp
  refine (need_no w0 R S d n D x p _ ?_ hg hp).mono ?_
  · exact HA.out.keep (Chg.refl _ _).drew
  rintro e w3 ⟨rfl, hR⟩
  have HR := hid hR
  clear hR
  go_wp2
  refine wpAny_of_held (S := fun _ => True) _ _ _ _ ?_
  have hS5 := True.intro
  refine take_at 2 (by kernel_rfl) (by kernel_rfl) (by kernel_rfl) (by kernel_rfl) hS5 (fun oi hoi => ?_)
  simp only [List.getElem?_toArray, List.getElem?_cons_succ, List.getElem?_cons_zero, Option.some.injEq] at hoi
  subst hoi
  refine ⟨?_, fun _ _ _ h => hpan _ _ _ _ _ h, Or.inl ⟨by rfl, ?_⟩, ?_⟩
  rotate_left
  · (intro w hSw; (try dsimp only at hSw); go_simp <;> with_reducible rfl)
  simp only [Act.put, List.setIfInBounds_toArray, List.set_cons_zero, List.set_cons_succ]
  refine take_at 3 (by kernel_rfl) (by kernel_rfl) (by kernel_rfl) (by kernel_rfl) hS5 (fun oi hoi => ?_)
  simp only [List.getElem?_toArray, List.getElem?_cons_succ, List.getElem?_cons_zero, Option.some.injEq] at hoi
  subst hoi
  refine ⟨undef, fun _ _ _ h => hpan _ _ _ _ _ h, Or.inr ⟨by rfl, rfl⟩, ?_⟩
  simp only [Act.put, List.setIfInBounds_toArray, List.set_cons_zero, List.set_cons_succ]
  refine take_at 4 (by kernel_rfl) (by kernel_rfl) (by kernel_rfl) (by kernel_rfl) hS5 (fun oi hoi => ?_)
  simp only [List.getElem?_toArray, List.getElem?_cons_succ, List.getElem?_cons_zero, Option.some.injEq] at hoi
  subst hoi
  refine ⟨undef, fun _ _ _ h => hpan _ _ _ _ _ h, Or.inr ⟨by rfl, rfl⟩, ?_⟩
  simp only [Act.put, List.setIfInBounds_toArray, List.set_cons_zero, List.set_cons_succ]
  refine take_at 5 (by kernel_rfl) (by kernel_rfl) (by kernel_rfl) (by kernel_rfl) hS5 (fun oi hoi => ?_)
  simp only [List.getElem?_toArray, List.getElem?_cons_succ, List.getElem?_cons_zero, Option.some.injEq] at hoi
  subst hoi
  refine ⟨undef, fun _ _ _ h => hpan _ _ _ _ _ h, Or.inr ⟨by rfl, rfl⟩, ?_⟩
  simp only [Act.put, List.setIfInBounds_toArray, List.set_cons_zero, List.set_cons_succ]
  refine take_at 6 (by kernel_rfl) (by kernel_rfl) (by kernel_rfl) (by kernel_rfl) hS5 (fun oi hoi => ?_)
  simp only [List.getElem?_toArray, List.getElem?_cons_succ, List.getElem?_cons_zero, Option.some.injEq] at hoi
  subst hoi
  refine ⟨undef, fun _ _ _ h => hpan _ _ _ _ _ h, Or.inr ⟨by rfl, rfl⟩, ?_⟩
  simp only [Act.put, List.setIfInBounds_toArray, List.set_cons_zero, List.set_cons_succ]
  refine take_at 7 (by kernel_rfl) (by kernel_rfl) (by kernel_rfl) (by kernel_rfl) hS5 (fun oi hoi => ?_)
  simp only [List.getElem?_toArray, List.getElem?_cons_succ, List.getElem?_cons_zero, Option.some.injEq] at hoi
  subst hoi
  refine ⟨undef, fun _ _ _ h => hpan _ _ _ _ _ h, Or.inr ⟨by rfl, rfl⟩, ?_⟩
  simp only [Act.put, List.setIfInBounds_toArray, List.set_cons_zero, List.set_cons_succ]
  refine take_at 8 (by kernel_rfl) (by kernel_rfl) (by kernel_rfl) (by kernel_rfl) hS5 (fun oi hoi => ?_)
  simp only [List.getElem?_toArray, List.getElem?_cons_succ, List.getElem?_cons_zero, Option.some.injEq] at hoi
  subst hoi
  refine ⟨undef, fun _ _ _ h => hpan _ _ _ _ _ h, Or.inr ⟨by rfl, rfl⟩, ?_⟩
  simp only [Act.put, List.setIfInBounds_toArray, List.set_cons_zero, List.set_cons_succ]
  refine take_at 9 (by kernel_rfl) (by kernel_rfl) (by kernel_rfl) (by kernel_rfl) hS5 (fun oi hoi => ?_)
  simp only [List.getElem?_toArray, List.getElem?_cons_succ, List.getElem?_cons_zero, Option.some.injEq] at hoi
  subst hoi
  refine ⟨undef, fun _ _ _ h => hpan _ _ _ _ _ h, Or.inr ⟨by rfl, rfl⟩, ?_⟩
  simp only [Act.put, List.setIfInBounds_toArray, List.set_cons_zero, List.set_cons_succ]
  refine take_at 10 (by kernel_rfl) (by kernel_rfl) (by kernel_rfl) (by kernel_rfl) hS5 (fun oi hoi => ?_)
  simp only [List.getElem?_toArray, List.getElem?_cons_succ, List.getElem?_cons_zero, Option.some.injEq] at hoi
  subst hoi
  refine ⟨undef, fun _ _ _ h => hpan _ _ _ _ _ h, Or.inr ⟨by rfl, rfl⟩, ?_⟩
  simp only [Act.put, List.setIfInBounds_toArray, List.set_cons_zero, List.set_cons_succ]
  refine take_at 11 (by kernel_rfl) (by kernel_rfl) (by kernel_rfl) (by kernel_rfl) hS5 (fun oi hoi => ?_)
  simp only [List.getElem?_toArray, List.getElem?_cons_succ, List.getElem?_cons_zero, Option.some.injEq] at hoi
  subst hoi
  refine ⟨undef, fun _ _ _ h => hpan _ _ _ _ _ h, Or.inr ⟨by rfl, rfl⟩, ?_⟩
  simp only [Act.put, List.setIfInBounds_toArray, List.set_cons_zero, List.set_cons_succ]
  refine take_at 12 (by kernel_rfl) (by kernel_rfl) (by kernel_rfl) (by kernel_rfl) hS5 (fun oi hoi => ?_)
  simp only [List.getElem?_toArray, List.getElem?_cons_succ, List.getElem?_cons_zero, Option.some.injEq] at hoi
  subst hoi
  refine ⟨undef, fun _ _ _ h => hpan _ _ _ _ _ h, Or.inr ⟨by rfl, rfl⟩, ?_⟩
  simp only [Act.put, List.setIfInBounds_toArray, List.set_cons_zero, List.set_cons_succ]
  refine take_at 13 (by kernel_rfl) (by kernel_rfl) (by kernel_rfl) (by kernel_rfl) hS5 (fun oi hoi => ?_)
  simp only [List.getElem?_toArray, List.getElem?_cons_succ, List.getElem?_cons_zero, Option.some.injEq] at hoi
  subst hoi
  refine ⟨undef, fun _ _ _ h => hpan _ _ _ _ _ h, Or.inr ⟨by rfl, rfl⟩, ?_⟩
  simp only [Act.put, List.setIfInBounds_toArray, List.set_cons_zero, List.set_cons_succ]
  refine take_at 14 (by kernel_rfl) (by kernel_rfl) (by kernel_rfl) (by kernel_rfl) hS5 (fun oi hoi => ?_)
  simp only [List.getElem?_toArray, List.getElem?_cons_succ, List.getElem?_cons_zero, Option.some.injEq] at hoi
  subst hoi
  refine ⟨undef, fun _ _ _ h => hpan _ _ _ _ _ h, Or.inr ⟨by rfl, rfl⟩, ?_⟩
  simp only [Act.put, List.setIfInBounds_toArray, List.set_cons_zero, List.set_cons_succ]
  refine take_at 15 (by kernel_rfl) (by kernel_rfl) (by kernel_rfl) (by kernel_rfl) hS5 (fun oi hoi => ?_)
  simp only [List.getElem?_toArray, List.getElem?_cons_succ, List.getElem?_cons_zero, Option.some.injEq] at hoi
  subst hoi
  refine ⟨undef, fun _ _ _ h => hpan _ _ _ _ _ h, Or.inr ⟨by rfl, rfl⟩, ?_⟩
  simp only [Act.put, List.setIfInBounds_toArray, List.set_cons_zero, List.set_cons_succ]
  refine take_at 16 (by kernel_rfl) (by kernel_rfl) (by kernel_rfl) (by kernel_rfl) hS5 (fun oi hoi => ?_)
  simp only [List.getElem?_toArray, List.getElem?_cons_succ, List.getElem?_cons_zero, Option.some.injEq] at hoi
  subst hoi
  refine ⟨undef, fun _ _ _ h => hpan _ _ _ _ _ h, Or.inr ⟨by rfl, rfl⟩, ?_⟩
  simp only [Act.put, List.setIfInBounds_toArray, List.set_cons_zero, List.set_cons_succ]
  refine take_at 17 (by kernel_rfl) (by kernel_rfl) (by kernel_rfl) (by kernel_rfl) hS5 (fun oi hoi => ?_)
  simp only [List.getElem?_toArray, List.getElem?_cons_succ, List.getElem?_cons_zero, Option.some.injEq] at hoi
  subst hoi
  refine ⟨undef, fun _ _ _ h => hpan _ _ _ _ _ h, Or.inr ⟨by rfl, rfl⟩, ?_⟩
  simp only [Act.put, List.setIfInBounds_toArray, List.set_cons_zero, List.set_cons_succ]
  refine take_at 18 (by kernel_rfl) (by kernel_rfl) (by kernel_rfl) (by kernel_rfl) hS5 (fun oi hoi => ?_)
  simp only [List.getElem?_toArray, List.getElem?_cons_succ, List.getElem?_cons_zero, Option.some.injEq] at hoi
  subst hoi
  refine ⟨undef, fun _ _ _ h => hpan _ _ _ _ _ h, Or.inr ⟨by rfl, rfl⟩, ?_⟩
  simp only [Act.put, List.setIfInBounds_toArray, List.set_cons_zero, List.set_cons_succ]
  refine take_at 19 (by kernel_rfl) (by kernel_rfl) (by kernel_rfl) (by kernel_rfl) hS5 (fun oi hoi => ?_)
  simp only [List.getElem?_toArray, List.getElem?_cons_succ, List.getElem?_cons_zero, Option.some.injEq] at hoi
  subst hoi
  refine ⟨undef, fun _ _ _ h => hpan _ _ _ _ _ h, Or.inr ⟨by rfl, rfl⟩, ?_⟩
  simp only [Act.put, List.setIfInBounds_toArray, List.set_cons_zero, List.set_cons_succ]
  refine take_at 20 (by kernel_rfl) (by kernel_rfl) (by kernel_rfl) (by kernel_rfl) hS5 (fun oi hoi => ?_)
  simp only [List.getElem?_toArray, List.getElem?_cons_succ, List.getElem?_cons_zero, Option.some.injEq] at hoi
  subst hoi
  refine ⟨undef, fun _ _ _ h => hpan _ _ _ _ _ h, Or.inr ⟨by rfl, rfl⟩, ?_⟩
  simp only [Act.put, List.setIfInBounds_toArray, List.set_cons_zero, List.set_cons_succ]
  refine take_at 21 (by kernel_rfl) (by kernel_rfl) (by kernel_rfl) (by kernel_rfl) hS5 (fun oi hoi => ?_)
  simp only [List.getElem?_toArray, List.getElem?_cons_succ, List.getElem?_cons_zero, Option.some.injEq] at hoi
  subst hoi
  refine ⟨undef, fun _ _ _ h => hpan _ _ _ _ _ h, Or.inr ⟨by rfl, rfl⟩, ?_⟩
  simp only [Act.put, List.setIfInBounds_toArray, List.set_cons_zero, List.set_cons_succ]
  refine take_at 22 (by kernel_rfl) (by kernel_rfl) (by kernel_rfl) (by kernel_rfl) hS5 (fun oi hoi => ?_)
  simp only [List.getElem?_toArray, List.getElem?_cons_succ, List.getElem?_cons_zero, Option.some.injEq] at hoi
  subst hoi
  refine ⟨undef, fun _ _ _ h => hpan _ _ _ _ _ h, Or.inr ⟨by rfl, rfl⟩, ?_⟩
  simp only [Act.put, List.setIfInBounds_toArray, List.set_cons_zero, List.set_cons_succ]
  refine take_at 23 (by kernel_rfl) (by kernel_rfl) (by kernel_rfl) (by kernel_rfl) hS5 (fun oi hoi => ?_)
  simp only [List.getElem?_toArray, List.getElem?_cons_succ, List.getElem?_cons_zero, Option.some.injEq] at hoi
  subst hoi
  refine ⟨undef, fun _ _ _ h => hpan _ _ _ _ _ h, Or.inr ⟨by rfl, rfl⟩, ?_⟩
  simp only [Act.put, List.setIfInBounds_toArray, List.set_cons_zero, List.set_cons_succ]
  refine take_at 24 (by kernel_rfl) (by kernel_rfl) (by kernel_rfl) (by kernel_rfl) hS5 (fun oi hoi => ?_)
  simp only [List.getElem?_toArray, List.getElem?_cons_succ, List.getElem?_cons_zero, Option.some.injEq] at hoi
  subst hoi
  refine ⟨undef, fun _ _ _ h => hpan _ _ _ _ _ h, Or.inr ⟨by rfl, rfl⟩, ?_⟩
  simp only [Act.put, List.setIfInBounds_toArray, List.set_cons_zero, List.set_cons_succ]
  refine take_at 25 (by kernel_rfl) (by kernel_rfl) (by kernel_rfl) (by kernel_rfl) hS5 (fun oi hoi => ?_)
  simp only [List.getElem?_toArray, List.getElem?_cons_succ, List.getElem?_cons_zero, Option.some.injEq] at hoi
  subst hoi
  refine ⟨undef, fun _ _ _ h => hpan _ _ _ _ _ h, Or.inr ⟨by rfl, rfl⟩, ?_⟩
  simp only [Act.put, List.setIfInBounds_toArray, List.set_cons_zero, List.set_cons_succ]
  refine take_at 26 (by kernel_rfl) (by kernel_rfl) (by kernel_rfl) (by kernel_rfl) hS5 (fun oi hoi => ?_)
  simp only [List.getElem?_toArray, List.getElem?_cons_succ, List.getElem?_cons_zero, Option.some.injEq] at hoi
  subst hoi
  refine ⟨undef, fun _ _ _ h => hpan _ _ _ _ _ h, Or.inr ⟨by rfl, rfl⟩, ?_⟩
  simp only [Act.put, List.setIfInBounds_toArray, List.set_cons_zero, List.set_cons_succ]
  refine take_at 27 (by kernel_rfl) (by kernel_rfl) (by kernel_rfl) (by kernel_rfl) hS5 (fun oi hoi => ?_)
  simp only [List.getElem?_toArray, List.getElem?_cons_succ, List.getElem?_cons_zero, Option.some.injEq] at hoi
  subst hoi
  refine ⟨?_, fun _ _ _ h => hpan _ _ _ _ _ h, Or.inl ⟨by rfl, ?_⟩, ?_⟩
  rotate_left
  · (intro w hSw; (try dsimp only at hSw); go_simp <;> with_reducible rfl)
  simp only [Act.put, List.setIfInBounds_toArray, List.set_cons_zero, List.set_cons_succ]
  refine wpAnyH_done (by kernel_rfl) ?_ _
  exact hK.out _ _ _ _ _ _ _ _ _ _ _ _ _ _ _ _ _ _ _ _ _ _ _ _ _ _ _ w3 HR.out

set_option maxRecDepth 1000000 in
theorem r17_any (w0 : World) (R S d n : Nat) (D : Nat → Int) (x : Addr) (p : Nat) (w : World) (hg : w0.cell? ⟨0, 0, none⟩ = some (eofV x)) (HA : Hid (At w0 R S d n D x p w)) (Q : Exit → Act → World → Prop) (hpan : ∀ (c : _) (a : Act) (d : Option Tmp) (v : Value) (w : World), Q (.panic c) (a.put d v) w → Q (.panic c) a w)
    (c1 c2 c3 c4 c5 c6 c7 c8 c9 c10 c11 c12 c13 c14 c15 c16 c17 c18 c19 c20 c21 c22 c23 c24 c25 c26 c27 c28 c29 c30 c31 c32 c33 c34 c35 c36 c37 c38 c39 c40 c41 c42 c43 c44 c45 c46 c47 c48 c49 c50 c51 c52 c53 c54 c55 c56 c57 c58 c59 c60 c61 c62 c63 c64 c65 c66 c67 c68 c69 c70 c71 c72 c73 c74 c75 c76 c77 c78 c79 c80 c81 c82 c83 c84 c85 c86 c87 c88 c89 c90 c91 c92 c93 c94 c95 c96 c97 c98 c99 c100 c101 c102 c103 c104 c105 c106 c107 c108 c109 c110 c111 c112 c113 c114 c115 c116 c117 c118 c119 c120 c121 c122 c123 c124 c125 c126 c127 c128 c129 c130 c131 c132 c133 c134 c135 c136 c137 c138 c139 c140 c141 c142 c143 c144 c145 c146 c147 c148 c149 c150 c151 c152 c153 c154 c155 : Value) (hK1 : Hid ((p < n ∧ isS (D p) = true) → ∀ (v114 v115 v116 v117 v118 v119 v120 v121 v122 v123 v124 v125 v126 v127 v128 v129 v130 v131 v132 v133 v134 v135 v136 v137 v138 v139 v140 : Value) (w' : World), Ready w0 R S d n D x p w' → Q .normal ⟨#[.pointer (some ⟨R, 0, none⟩), c1, c2, c3, c4, c5, c6, c7, c8, c9, c10, c11, c12, c13, c14, c15, c16, c17, c18, c19, c20, c21, c22, c23, c24, c25, c26, c27, c28, c29, c30, c31, c32, c33, c34, c35, c36, c37, c38, c39, c40, c41, c42, c43, c44, c45, c46, c47, c48, c49, c50, c51, c52, c53, c54, c55, c56, c57, c58, c59, c60, c61, c62, c63, c64, c65, c66, c67, c68, c69, c70, c71, c72, c73, c74, c75, c76, c77, c78, c79, c80, c81, c82, c83, c84, c85, c86, c87, c88, c89, c90, c91, c92, c93, c94, c95, c96, c97, c98, c99, c100, c101, c102, c103, c104, c105, c106, c107, c108, c109, c110, c111, c112, c113, v114, v115, v116, v117, v118, v119, v120, v121, v122, v123, v124, v125, v126, v127, v128, v129, v130, v131, v132, v133, v134, v135, v136, v137, v138, v139, v140, .bool true, c142, c143, c144, c145, c146, c147, c148, c149, c150, c151, c152, c153, c154, c155], []⟩ w')) (hK2 : Hid (¬ (p < n ∧ isS (D p) = true) → ∀ (v114 v115 v116 v117 v118 v119 v120 v121 v122 v123 v124 v125 v126 v127 v128 v129 v130 v131 v132 v133 v134 v135 v136 v137 v138 v139 v140 : Value) (w' : World), At w0 R S d n D x p w' → Q .normal ⟨#[.pointer (some ⟨R, 0, none⟩), c1, c2, c3, c4, c5, c6, c7, c8, c9, c10, c11, c12, c13, c14, c15, c16, c17, c18, c19, c20, c21, c22, c23, c24, c25, c26, c27, c28, c29, c30, c31, c32, c33, c34, c35, c36, c37, c38, c39, c40, c41, c42, c43, c44, c45, c46, c47, c48, c49, c50, c51, c52, c53, c54, c55, c56, c57, c58, c59, c60, c61, c62, c63, c64, c65, c66, c67, c68, c69, c70, c71, c72, c73, c74, c75, c76, c77, c78, c79, c80, c81, c82, c83, c84, c85, c86, c87, c88, c89, c90, c91, c92, c93, c94, c95, c96, c97, c98, c99, c100, c101, c102, c103, c104, c105, c106, c107, c108, c109, c110, c111, c112, c113, v114, v115, v116, v117, v118, v119, v120, v121, v122, v123, v124, v125, v126, v127, v128, v129, v130, v131, v132, v133, v134, v135, v136, v137, v138, v139, v140, .bool false, c142, c143, c144, c145, c146, c147, c148, c149, c150, c151, c152, c153, c154, c155], []⟩ w')) :
    Code.wp Tryf.prog (regOf Tryf.f40 17) Q ⟨#[.pointer (some ⟨R, 0, none⟩), c1, c2, c3, c4, c5, c6, c7, c8, c9, c10, c11, c12, c13, c14, c15, c16, c17, c18, c19, c20, c21, c22, c23, c24, c25, c26, c27, c28, c29, c30, c31, c32, c33, c34, c35, c36, c37, c38, c39, c40, c41, c42, c43, c44, c45, c46, c47, c48, c49, c50, c51, c52, c53, c54, c55, c56, c57, c58, c59, c60, c61, c62, c63, c64, c65, c66, c67, c68, c69, c70, c71, c72, c73, c74, c75, c76, c77, c78, c79, c80, c81, c82, c83, c84, c85, c86, c87, c88, c89, c90, c91, c92, c93, c94, c95, c96, c97, c98, c99, c100, c101, c102, c103, c104, c105, c106, c107, c108, c109, c110, c111, c112, c113, c114, c115, c116, c117, c118, c119, c120, c121, c122, c123, c124, c125, c126, c127, c128, c129, c130, c131, c132, c133, c134, c135, c136, c137, c138, c139, c140, c141, c142, c143, c144, c145, c146, c147, c148, c149, c150, c151, c152, c153, c154, c155], []⟩ w := by
  by_cases hp : p < n
  · by_cases hc : D p = 43
    · exact r17_first w0 R S d n D x p w hg HA hp (by simp [hc]) Q hpan _ _ _ _ _ _ _ _ _ _ _ _ _ _ _ _ _ _ _ _ _ _ _ _ _ _ _ _ _ _ _ _ _ _ _ _ _ _ _ _ _ _ _ _ _ _ _ _ _ _ _ _ _ _ _ _ _ _ _ _ _ _ _ _ _ _ _ _ _ _ _ _ _ _ _ _ _ _ _ _ _ _ _ _ _ _ _ _ _ _ _ _ _ _ _ _ _ _ _ _ _ _ _ _ _ _ _ _ _ _ _ _ _ _ _ _ _ _ _ _ _ _ _ _ _ _ _ _ _ _ _ _ _ _ _ _ _ _ _ _ _ _ _ _ _ _ _ _ _ _ _ _ _ _ _ (hid (hK1.out ⟨hp, by simp [isS, hc]⟩))
    · by_cases hc2 : D p = 45
      · exact r17_second w0 R S d n D x p w hg HA hp (by simp [hc]) (by simp [hc2]) Q hpan _ _ _ _ _ _ _ _ _ _ _ _ _ _ _ _ _ _ _ _ _ _ _ _ _ _ _ _ _ _ _ _ _ _ _ _ _ _ _ _ _ _ _ _ _ _ _ _ _ _ _ _ _ _ _ _ _ _ _ _ _ _ _ _ _ _ _ _ _ _ _ _ _ _ _ _ _ _ _ _ _ _ _ _ _ _ _ _ _ _ _ _ _ _ _ _ _ _ _ _ _ _ _ _ _ _ _ _ _ _ _ _ _ _ _ _ _ _ _ _ _ _ _ _ _ _ _ _ _ _ _ _ _ _ _ _ _ _ _ _ _ _ _ _ _ _ _ _ _ _ _ _ _ _ _ (hid (hK1.out ⟨hp, by simp [isS, hc2]⟩))
      · exact r17_other w0 R S d n D x p w hg HA hp (by simp [hc]) (by simp [hc2]) Q hpan _ _ _ _ _ _ _ _ _ _ _ _ _ _ _ _ _ _ _ _ _ _ _ _ _ _ _ _ _ _ _ _ _ _ _ _ _ _ _ _ _ _ _ _ _ _ _ _ _ _ _ _ _ _ _ _ _ _ _ _ _ _ _ _ _ _ _ _ _ _ _ _ _ _ _ _ _ _ _ _ _ _ _ _ _ _ _ _ _ _ _ _ _ _ _ _ _ _ _ _ _ _ _ _ _ _ _ _ _ _ _ _ _ _ _ _ _ _ _ _ _ _ _ _ _ _ _ _ _ _ _ _ _ _ _ _ _ _ _ _ _ _ _ _ _ _ _ _ _ _ _ _ _ _ _ (hid (fun _ _ _ _ _ _ _ _ _ _ _ _ _ _ _ _ _ _ _ _ _ _ _ _ _ _ _ w' h => hK2.out (fun h' => by have := h'.2; simp [isS, hc, hc2] at this) _ _ _ _ _ _ _ _ _ _ _ _ _ _ _ _ _ _ _ _ _ _ _ _ _ _ _ w' h.at))
  · exact r17_no w0 R S d n D x p w hg HA hp Q hpan _ _ _ _ _ _ _ _ _ _ _ _ _ _ _ _ _ _ _ _ _ _ _ _ _ _ _ _ _ _ _ _ _ _ _ _ _ _ _ _ _ _ _ _ _ _ _ _ _ _ _ _ _ _ _ _ _ _ _ _ _ _ _ _ _ _ _ _ _ _ _ _ _ _ _ _ _ _ _ _ _ _ _ _ _ _ _ _ _ _ _ _ _ _ _ _ _ _ _ _ _ _ _ _ _ _ _ _ _ _ _ _ _ _ _ _ _ _ _ _ _ _ _ _ _ _ _ _ _ _ _ _ _ _ _ _ _ _ _ _ _ _ _ _ _ _ _ _ _ _ _ _ _ _ _ (hid (hK2.out (fun h => hp h.1)))

end Go.Proofs.Qxb6616277aFmt
