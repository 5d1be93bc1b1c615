/-
  The law on append onto a slice without room. No program here.
-/
import Derived.Test.YtnkkpdpjkfjmnaaApp
import Derived.ArgAppend
namespace Go.Proofs.Ytnkkpdpjkfjmnaa.Me
open Go.RowKit
set_option linter.unusedVariables false

theorem Sl.at_add {w : World} {B : Nat} {b : Addr} {xs : List Value} (h : Sl w B (some b) xs) : ∀ j u, xs[j]? = some u → w.cell? (b.add j) = some u := by
  intro j u hj
  rcases h with rfl | ⟨g, off, hA, _, hc⟩
  · simp at hj
  · injection hA with hA
    subst hA
    have := hc j u hj
    by_cases h0 : j = 0
    · subst h0; simpa [Addr.add] using this
    · simpa [Addr.add, h0] using this

theorem below_of_grown_none {w w' : World} (h : w.grownBy w' none) : Below w.heap.size w w' := ⟨h.os, h.tape, h.output, h.size, fun k hk => h.block k hk (by simp)⟩

section
variable {P : Program} {t e : TypeId} {size bytes : Nat} {z : Value}

theorem run_app_full (E : Elem P t e 1 bytes z) (w : World) (ty : TypeId) {n m c B B' : Nat} {b : Addr} {A : Option Addr} {olds news : List Value} (ho : olds.length = n) (hO : Sl w B' (some b) olds) (hB' : B' ≤ w.heap.size)
    (hS : Sl w B A news) (hl : news.length = m) (h1 : ∀ u ∈ news, u.oneCell' = true) (hb : (n + m) * bytes ≤ 140737488355328) :
    ∃ A' c' w', (Builtin.append_ #[t, t] ty #[.slice (some b) n n, .slice A m c]).run P w = .ok (.slice A' (n + m) c') w' ∧ n + m ≤ c' ∧ c' ≤ maxLen ∧ Sl w' w'.heap.size A' (olds ++ news) ∧ Below w.heap.size w w' := by
  obtain ⟨hu, hinfo, hz, hs', hby⟩ := E
  obtain ⟨i0, hi, hz0, hz1, hz2⟩ := info_parts hinfo
  by_cases hm : m = 0
  · subst hm
    have hn : news = [] := List.eq_nil_of_length_eq_zero hl
    subst hn
    refine ⟨some b, n, w, ?_, by omega, le_maxLen hb hby, by simpa using hO.more hB', Below.refl _ _⟩
    rcases A with _ | ad
    · simp [Builtin.append_, run_underlying hu, sizeOf, typeInfo, hi, Builtin.lenOf, Builtin.firstCells, storeCells]
    · have hf := run_firstCells_some (P := P) w i0.size 0 ad 0 c [] (by simp) (by simp)
      simp [Builtin.append_, run_underlying hu, sizeOf, typeInfo, hi, Builtin.lenOf, hf, storeCells]
  · rcases A with _ | ad
    · rcases hS with rfl | ⟨_, _, hA, _⟩
      · exact absurd hl (by simp; omega)
      · cases hA
    · obtain ⟨v', w', hrun, r1, r2⟩ := run_append_arg_grows (P := P) w t ty e i0 z 1 bytes hu hi hz0 hz1 hz2 hz hs' b n n olds (by omega) hO.at_add ad m c news (by omega) hS.at_add (by omega) (le_maxLen hb hby) hb
      obtain ⟨A', c', rfl, hc1, hc2⟩ := own_shape r1
      exact ⟨A', c', w', hrun, hc1, hc2, Sl.of_own r1, below_of_grown_none r2⟩

theorem wpList_app_full (E : Elem P t e 1 bytes z) {w : World} {ops : Array Oper} {rest : List Oper} {o : Oper} {a : Act} {Q : Exit → Act → World → Prop} (hgd : o.guard = none) {n m c B B' : Nat} {b : Addr} {A : Option Addr} {olds news : List Value} (ho : olds.length = n) (hO : Sl w B' (some b) olds) (hB' : B' ≤ w.heap.size)
    (hS : Sl w B A news) (s x : Operand) (hop : o.op = .call { callee := .builtin .append, args := #[s, x], argTypes := #[t, t] }) (hs : a.eval s = .slice (some b) n n) (hx : a.eval x = .slice A m c) (hl : news.length = m) (h1 : ∀ u ∈ news, u.oneCell' = true) (hb : (n + m) * bytes ≤ 140737488355328)
    (h : ∀ A' c' w', n + m ≤ c' → c' ≤ maxLen → Sl w' w'.heap.size A' (olds ++ news) → Below w.heap.size w w' → wpList P ops Q rest (a.put o.dst (.slice A' (n + m) c')) w') : wpList P ops Q (o :: rest) a w := by
  obtain ⟨A', c', w', hr, h2, h3, h4, h5⟩ := run_app_full E w o.type ho hO hB' hS hl h1 hb (c := c)
  refine wpList_plain hgd fun _ hK => ?_
  unfold Oper.wp execOp
  simp only [hop, resolve, invoke, builtin, Sem.run_bind, Sem.run_pure, Result.andThen_ok, List.map_toArray, List.map_cons, List.map_nil, hs, hx, hr]
  exact hK _ _ (h A' c' w' h2 h3 h4 h5)
end
end Go.Proofs.Ytnkkpdpjkfjmnaa.Me
