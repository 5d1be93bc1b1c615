/-
  Laws on append onto a row of the call's own. No program here.
-/
import Derived.Test.YtnkkpdpjkfjmnaaMem
import Derived.RegionTactic
import Derived.Deep.AppendLies
namespace Go.Proofs.Ytnkkpdpjkfjmnaa.Me
open Go.RowKit
set_option linter.unusedVariables false

/-- what the program's table says of a slice type t and its element type e -/
def Elem (P : Program) (t e : TypeId) (size bytes : Nat) (z : Value) : Prop :=
  P.underlying t = some (.slice e) ∧ (P.info? e).map (fun i => (i.zero, i.size, i.bytes)) = some (some z, size, bytes) ∧ z.cells.size = size ∧ 0 < size ∧ 0 < bytes

theorem le_maxLen {n b : Nat} (h : n * b ≤ 140737488355328) (hb : 0 < b) : n ≤ maxLen := by
  have : n * 1 ≤ n * b := Nat.mul_le_mul_left _ hb
  simp only [maxLen]; omega

theorem ones1 {x : Value} (h : x.oneCell' = true) : ∀ u ∈ [x], u.oneCell' = true := by intro u hu; simp at hu; subst hu; exact h
theorem ones2 {x y : Value} (h : x.oneCell' = true) (h2 : y.oneCell' = true) : ∀ u ∈ [x, y], u.oneCell' = true := by
  intro u hu; simp at hu; rcases hu with rfl | rfl <;> assumption
theorem ones3 {x y z : Value} (h : x.oneCell' = true) (h2 : y.oneCell' = true) (h3 : z.oneCell' = true) : ∀ u ∈ [x, y, z], u.oneCell' = true := by
  intro u hu; simp at hu; rcases hu with rfl | rfl | rfl <;> assumption
theorem ones4 {x y z t : Value} (h : x.oneCell' = true) (h2 : y.oneCell' = true) (h3 : z.oneCell' = true) (h4 : t.oneCell' = true) : ∀ u ∈ [x, y, z, t], u.oneCell' = true := by
  intro u hu; simp at hu; rcases hu with rfl | rfl | rfl | rfl <;> assumption

section
variable {P : Program} {t e : TypeId} {size bytes : Nat} {z : Value}

/-- the source lies somewhere (or is empty) -/
theorem run_app_sl (E : Elem P t e size bytes z) (w : World) (ty : TypeId) {base n m c : Nat} {v : Value} {xs news : List Value} (hown : w.ownsRow base e size v n xs)
    {B : Nat} {A : Option Addr} (hS : Sl w B A news) (hl : news.length = m * size) (h1 : ∀ u ∈ news, u.oneCell' = true) (hb : (n + m) * bytes ≤ 140737488355328) (hbase : base ≤ w.heap.size) :
    ∃ v' w', (Builtin.append_ #[t, t] ty #[v, .slice A m c]).run P w = .ok v' w' ∧ w'.ownsRow base e size v' (n + m) (xs ++ news) ∧ w.grownBy w' v.ownBlock ∧ (v' = .slice none 0 0 ↔ v = .slice none 0 0 ∧ m = 0) := by
  obtain ⟨hu, hinfo, hz, hs', hby⟩ := E
  obtain ⟨i0, hi, hz0, hz1, hz2⟩ := info_parts hinfo
  rcases A with _ | ad
  · rcases hS with rfl | ⟨b, off, hA, _⟩
    · have hm : m = 0 := by
        rcases Nat.eq_zero_or_pos m with h | h
        · exact h
        · have := Nat.mul_pos h hs'
          simp at hl
          omega
      subst hm
      refine ⟨v, w, ?_, by simpa using hown, ⟨rfl, rfl, rfl, Nat.le_refl _, fun _ _ _ => rfl⟩, by simp⟩
      rcases hown.2 with ⟨rfl, rfl⟩ | ⟨g, cap, cur, rfl, _, _, hnc, _⟩
      · simp [Builtin.append_, run_underlying hu, sizeOf, typeInfo, hi, Builtin.lenOf, Builtin.firstCells]
      · simp [Builtin.append_, run_underlying hu, sizeOf, typeInfo, hi, Builtin.lenOf, Builtin.firstCells, hnc, storeCells]
    · cases hA
  · refine run_append_own w base t ty e i0 z size bytes hu hi hz0 hz1 hz2 hz hs' v n xs hown ad m c news hl (fun j u hj => ?_) h1 (le_maxLen hb hby) hb hbase
    rcases hS with rfl | ⟨b, off, hA, _, hc⟩
    · simp at hj
    · injection hA with hA
      subst hA
      have := hc j u hj
      by_cases h0 : j = 0
      · subst h0; simpa [Addr.add] using this
      · simpa [Addr.add, h0] using this

theorem wp_app_sl (E : Elem P t e size bytes z) {w : World} {o : Oper} {a : Act} {K : Act → World → Prop} {Q : Exit → Act → World → Prop} {base n m c : Nat} {v : Value} {xs news : List Value} (hown : w.ownsRow base e size v n xs)
    {B : Nat} {A : Option Addr} (hS : Sl w B A news) (s x : Operand) (ho : o.op = .call { callee := .builtin .append, args := #[s, x], argTypes := #[t, t] }) (hs : a.eval s = v) (hx : a.eval x = .slice A m c)
    (hl : news.length = m * size) (h1 : ∀ u ∈ news, u.oneCell' = true) (hb : (n + m) * bytes ≤ 140737488355328) (hbase : base ≤ w.heap.size)
    (h : ∀ v' w', w'.ownsRow base e size v' (n + m) (xs ++ news) → w.grownBy w' v.ownBlock → (v' = .slice none 0 0 ↔ v = .slice none 0 0 ∧ m = 0) → K (a.put o.dst v') w') : o.wp P a w K Q := by
  obtain ⟨v', w', hr, h2, h3, h4⟩ := run_app_sl E w o.type hown hS hl h1 hb hbase (c := c)
  unfold Oper.wp execOp
  simp only [ho, resolve, invoke, builtin, Sem.run_bind, Sem.run_pure, Result.andThen_ok, List.map_toArray, List.map_cons, List.map_nil, hs, hx, hr]
  exact h v' w' h2 h3 h4

theorem wpList_app_sl (E : Elem P t e size bytes z) {w : World} {ops : Array Oper} {rest : List Oper} {o : Oper} {a : Act} {Q : Exit → Act → World → Prop} (hgd : o.guard = none) {base n m c : Nat} {v : Value} {xs news : List Value} (hown : w.ownsRow base e size v n xs)
    {B : Nat} {A : Option Addr} (hS : Sl w B A news) (s x : Operand) (ho : o.op = .call { callee := .builtin .append, args := #[s, x], argTypes := #[t, t] }) (hs : a.eval s = v) (hx : a.eval x = .slice A m c)
    (hl : news.length = m * size) (h1 : ∀ u ∈ news, u.oneCell' = true) (hb : (n + m) * bytes ≤ 140737488355328) (hbase : base ≤ w.heap.size)
    (h : ∀ v' w', w'.ownsRow base e size v' (n + m) (xs ++ news) → w.grownBy w' v.ownBlock → (v' = .slice none 0 0 ↔ v = .slice none 0 0 ∧ m = 0) → wpList P ops Q rest (a.put o.dst v') w') : wpList P ops Q (o :: rest) a w :=
  wpList_plain hgd fun _ hK => wp_app_sl E hown hS s x ho hs hx hl h1 hb hbase fun v' w' h2 h3 h4 => hK _ _ (h v' w' h2 h3 h4)

/-- the source is the block that has just been made -/
theorem sl_new (w : World) (news : List Value) (e : TypeId) : Sl (w.alloc (.cells news.toArray e)) (w.heap.size + 1) (some ⟨w.heap.size, 0, none⟩) news := by
  refine .inr ⟨w.heap.size, 0, rfl, by omega, fun j u hj => ?_⟩
  rw [Nat.zero_add, cell_of_row _ w.heap.size j news.toArray e (0, 0) (heap_alloc_new w _)]
  simpa using hj

theorem grownBy_of_alloc {w w' : World} {o : Obj} {row : Option Nat} (h : (w.alloc o).grownBy w' row) : w.grownBy w' row :=
  ⟨h.os, h.tape, h.output, Nat.le_trans (by simp) h.size, fun k hk hne => (h.block k (by simp; omega) hne).trans (heap_alloc_old w o hk)⟩

theorem wp_app (E : Elem P t e size bytes z) {w : World} {o : Oper} {a : Act} {K : Act → World → Prop} {Q : Exit → Act → World → Prop} {base n m : Nat} {v : Value} {xs news : List Value} (hown : w.ownsRow base e size v n xs)
    (s x : Operand) (ho : o.op = .call { callee := .builtin .append, args := #[s, x], argTypes := #[t, t] }) (hs : a.eval s = v) (hx : a.eval x = .slice (some ⟨w.heap.size, 0, none⟩) m m)
    (hl : news.length = m * size) (h1 : ∀ u ∈ news, u.oneCell' = true) (hb : (n + m) * bytes ≤ 140737488355328) (hbase : base ≤ w.heap.size)
    (h : ∀ v' w', w'.ownsRow base e size v' (n + m) (xs ++ news) → w.grownBy w' v.ownBlock → (v' = .slice none 0 0 ↔ v = .slice none 0 0 ∧ m = 0) → K (a.put o.dst v') w') : o.wp P a (w.alloc (.cells news.toArray e)) K Q :=
  wp_app_sl E (hown.alloc _) (sl_new w news e) s x ho hs hx hl h1 hb (by simp; omega) fun v' w' h2 h3 h4 => h v' w' h2 (grownBy_of_alloc h3) h4

theorem wpList_app (E : Elem P t e size bytes z) {w : World} {ops : Array Oper} {rest : List Oper} {o : Oper} {a : Act} {Q : Exit → Act → World → Prop} (hgd : o.guard = none) {base n m : Nat} {v : Value} {xs news : List Value} (hown : w.ownsRow base e size v n xs)
    (s x : Operand) (ho : o.op = .call { callee := .builtin .append, args := #[s, x], argTypes := #[t, t] }) (hs : a.eval s = v) (hx : a.eval x = .slice (some ⟨w.heap.size, 0, none⟩) m m)
    (hl : news.length = m * size) (h1 : ∀ u ∈ news, u.oneCell' = true) (hb : (n + m) * bytes ≤ 140737488355328) (hbase : base ≤ w.heap.size)
    (h : ∀ v' w', w'.ownsRow base e size v' (n + m) (xs ++ news) → w.grownBy w' v.ownBlock → (v' = .slice none 0 0 ↔ v = .slice none 0 0 ∧ m = 0) → wpList P ops Q rest (a.put o.dst v') w') : wpList P ops Q (o :: rest) a (w.alloc (.cells news.toArray e)) :=
  wpList_plain hgd fun _ hK => wp_app E hown s x ho hs hx hl h1 hb hbase fun v' w' h2 h3 h4 => hK _ _ (h v' w' h2 h3 h4)

/-- the slice written out -/
theorem wpList_appv (E : Elem P t e size bytes z) {w : World} {ops : Array Oper} {rest : List Oper} {o : Oper} {a : Act} {Q : Exit → Act → World → Prop} (hgd : o.guard = none) {base n m : Nat} {v : Value} {xs news : List Value} (hown : w.ownsRow base e size v n xs)
    (s x : Operand) (ho : o.op = .call { callee := .builtin .append, args := #[s, x], argTypes := #[t, t] }) (hs : a.eval s = v) (hx : a.eval x = .slice (some ⟨w.heap.size, 0, none⟩) m m)
    (hl : news.length = m * size) (h1 : ∀ u ∈ news, u.oneCell' = true) (hb : (n + m) * bytes ≤ 140737488355328) (hbase : base ≤ w.heap.size)
    (h : ∀ A c w', n + m ≤ c → c ≤ maxLen → w'.ownsRow base e size (.slice A (n + m) c) (n + m) (xs ++ news) → w.grownBy w' v.ownBlock → wpList P ops Q rest (a.put o.dst (.slice A (n + m) c)) w') : wpList P ops Q (o :: rest) a (w.alloc (.cells news.toArray e)) :=
  wpList_app E hgd hown s x ho hs hx hl h1 hb hbase fun v' w' h2 h3 _ => by
    obtain ⟨A, c, rfl, h4, h5⟩ := own_shape h2
    exact h A c w' h4 h5 h2 h3

/-- in a region that draws its order -/
theorem step_app (E : Elem P t e size bytes z) {w : World} {ops : Array Oper} {o : Oper} {a : Act} {K : Act → World → Prop} {Q : Exit → Act → World → Prop} {X : Prop} (hgd : o.guard = none) {base n m : Nat} {v : Value} {xs news : List Value} (hown : w.ownsRow base e size v n xs)
    (s x : Operand) (ho : o.op = .call { callee := .builtin .append, args := #[s, x], argTypes := #[t, t] }) (hs : a.eval s = v) (hx : a.eval x = .slice (some ⟨w.heap.size, 0, none⟩) m m)
    (hl : news.length = m * size) (h1 : ∀ u ∈ news, u.oneCell' = true) (hb : (n + m) * bytes ≤ 140737488355328) (hbase : base ≤ w.heap.size)
    (h : ∀ v' w', w'.ownsRow base e size v' (n + m) (xs ++ news) → w.grownBy w' v.ownBlock → (v' = .slice none 0 0 ↔ v = .slice none 0 0 ∧ m = 0) → K (a.put o.dst v') w') :
    if Region.wanted o (yielded ops a.tmps) = true then Oper.wp P o a (w.alloc (.cells news.toArray e)) K Q else X := by
  have hw : Region.wanted o (yielded ops a.tmps) = true := by simp [Region.wanted, hgd]
  rw [if_pos hw]
  exact wp_app E hown s x ho hs hx hl h1 hb hbase h

/-- behind the draw of such a region; the slice written out -/
theorem step_app_drew (E : Elem P t e size bytes z) {w : World} {ops : Array Oper} {o : Oper} {a : Act} {K : Act → World → Prop} {Q : Exit → Act → World → Prop} {X : Prop} (hgd : o.guard = none) {base n m : Nat} {v : Value} {xs news : List Value} (hown : w.ownsRow base e size v n xs)
    (s x : Operand) (ho : o.op = .call { callee := .builtin .append, args := #[s, x], argTypes := #[t, t] }) (hs : a.eval s = v) (hx : a.eval x = .slice (some ⟨w.heap.size, 0, none⟩) m m)
    (hl : news.length = m * size) (h1 : ∀ u ∈ news, u.oneCell' = true) (hb : (n + m) * bytes ≤ 140737488355328) (hbase : base ≤ w.heap.size)
    (h : ∀ A c w', n + m ≤ c → c ≤ maxLen → w'.ownsRow base e size (.slice A (n + m) c) (n + m) (xs ++ news) → w.grownBy w' v.ownBlock → K (a.put o.dst (.slice A (n + m) c)) w') :
    if Region.wanted o (yielded ops a.tmps) = true then Oper.wp P o a ((w.alloc (.cells news.toArray e)).drew) K Q else X :=
  step_app E (w := w.drew) hgd hown s x ho hs hx hl h1 hb hbase fun v' w' h2 h3 _ => by
    obtain ⟨A, c, rfl, h4, h5⟩ := own_shape h2
    exact h A c w' h4 h5 h2 ⟨h3.os, h3.tape, h3.output, h3.size, h3.block⟩
end
end Go.Proofs.Ytnkkpdpjkfjmnaa.Me
