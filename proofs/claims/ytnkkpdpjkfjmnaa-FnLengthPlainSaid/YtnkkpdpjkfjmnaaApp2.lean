/-
  append onto one of two rows: the row that comes of it is the old one or lies in a new block. No program here.
-/
import Derived.Test.YtnkkpdpjkfjmnaaApp
import Derived.Test.YtnkkpdpjkfjmnaaBMem
import Derived.ArgAppend
namespace Go.Proofs.Ytnkkpdpjkfjmnaa.Me
open Go.RowKit
set_option linter.unusedVariables false

/-- the block of a value is another's, or new -/
def SameOrNew (B : Nat) (v v' : Value) : Prop := v'.ownBlock = v.ownBlock ∨ ∃ g, v'.ownBlock = some g ∧ B ≤ g

/-- two values do not lie in one block -/
def Apart (v u : Value) : Prop := ∀ g, v.ownBlock = some g → u.ownBlock ≠ some g

theorem Apart.symm {v u : Value} (h : Apart v u) : Apart u v := fun g hg hv => h g hv hg
theorem apart_nil (u : Value) : Apart (.slice none 0 0) u := fun g hg => by cases hg

theorem Apart.next {w : World} {v v' u : Value} {base : Nat} {e : TypeId} {size n : Nat} {xs : List Value} (h : Apart v u) (hs : SameOrNew w.heap.size v v') (hu : w.ownsRow base e size u n xs) : Apart v' u := by
  intro g hg hug
  rcases hs with hs | ⟨k, hk, hB⟩
  · exact h g (hs ▸ hg) hug
  · rw [hk] at hg
    injection hg with hg
    subst hg
    have := (hu.lt _ hug).2
    omega

theorem own_apart {w w' : World} {v u : Value} {base : Nat} {e : TypeId} {size n : Nat} {xs : List Value} (hu : w.ownsRow base e size u n xs) (hg : w.grownBy w' v.ownBlock) (h : Apart v u) : w'.ownsRow base e size u n xs := by
  refine ⟨hu.1, hu.2.imp id fun ⟨g, cap, cur, e1, e2, e3, e4⟩ => ⟨g, cap, cur, e1, e2, ?_, e4⟩⟩
  have hlt : g < w.heap.size := (Array.getElem?_eq_some_iff.1 e3).1
  rw [hg.block g hlt (fun hv => h g hv.symm (by rw [e1]; rfl))]
  exact e3

section
variable {P : Program} {t e : TypeId} {size bytes : Nat} {z : Value}

theorem own_new {w' : World} {B : Nat} {v' : Value} {n : Nat} {xs : List Value} (h : w'.ownsRow B e size v' n xs) (hn : 0 < n) (v : Value) : SameOrNew B v v' := by
  rcases h.2 with ⟨_, h0⟩ | ⟨g, cap, cur, e1, e2, _⟩
  · omega
  · exact .inr ⟨g, by rw [e1]; rfl, e2⟩

/-- as run_app_sl, the source some cells in a block of their own -/
theorem run_app_apart (E : Elem P t e size bytes z) (w : World) (ty : TypeId) {base n m c : Nat} {v : Value} {xs news : List Value} (hown : w.ownsRow base e size v n xs)
    {B : Nat} {A : Option Addr} (hS : Sl w B A news) (hm : 0 < m) (hl : news.length = m * size) (h1 : ∀ u ∈ news, u.oneCell' = true) (hb : (n + m) * bytes ≤ 140737488355328) (hbase : base ≤ w.heap.size) :
    ∃ v' w', (Builtin.append_ #[t, t] ty #[v, .slice A m c]).run P w = .ok v' w' ∧ w'.ownsRow base e size v' (n + m) (xs ++ news) ∧ w.grownBy w' v.ownBlock ∧ SameOrNew w.heap.size v v' := by
  obtain ⟨v', w', hr, h2, h3, _⟩ := run_app_sl E w ty hown hS hl h1 hb hbase (c := c)
  refine ⟨v', w', hr, h2, h3, ?_⟩
  rcases hown.2 with ⟨rfl, rfl⟩ | ⟨g, cap, cur, rfl, hbg, hcell, hnc, hcm, hsz, hxs⟩
  · obtain ⟨v2, w2, hr2, g2, _⟩ := run_app_sl E w ty (base := w.heap.size) (xs := xs) (n := 0) (by rw [show xs = [] from List.eq_nil_of_length_eq_zero (by simpa using hown.1)]; exact World.ownsRow_nil _ _ _ _) hS hl h1 hb (Nat.le_refl _) (c := c)
    rw [hr] at hr2
    injection hr2 with e1 e2
    subst e1 e2
    exact own_new g2 (by omega) _
  · obtain ⟨hu, hinfo, hz, hs', hby⟩ := E
    obtain ⟨i0, hi, hz0, hz1, hz2⟩ := info_parts hinfo
    rcases hS with hS | ⟨ab, ao, rfl, hab, hc⟩
    · rw [hS] at hl
      have := Nat.mul_pos hm hs'
      simp at hl
      omega
    have hc' : ∀ j u, news[j]? = some u → w.cell? ((⟨ab, ao, none⟩ : Addr).add j) = some u := by
      intro j u hj
      have := hc j u hj
      by_cases h0 : j = 0
      · subst h0; simpa [Addr.add] using this
      · simpa [Addr.add, h0] using this
    by_cases hroom : n + m ≤ cap
    · have hcell' : ∀ k, w.cell? ⟨g, k, none⟩ = cur[k]? := fun k => cell_of_row w g k cur e (0, 0) hcell
      have hroom' : (n + m) * size ≤ cap * size := Nat.mul_le_mul_right _ hroom
      have hr2 := run_append_room_cells (P := P) (w := w) t ty e i0 hu hi g 0 n cap ⟨ab, ao, none⟩ m c news (by rw [hz1]; exact hl) hc' h1 hroom
        (fun j hj => by rw [hcell', hz1]; rw [Nat.add_mul] at hroom'; simp; omega)
        (fun j hj => by simp [World.frozen?, hcell])
      rw [hr] at hr2
      injection hr2 with e1 e2
      exact .inl (by rw [e1]; rfl)
    · have holds : ∀ j u, xs[j]? = some u → w.cell? ((⟨g, 0, none⟩ : Addr).add j) = some u := by
        intro j u hj
        have hc0 : w.cell? ⟨g, j, none⟩ = cur[j]? := cell_of_row w g j cur e (0, 0) hcell
        have hcj : cur[j]? = some u := by
          rw [← hxs, List.getElem?_take] at hj
          split at hj
          · simpa using hj
          · cases hj
        by_cases h0 : j = 0
        · subst h0; simpa [Addr.add, hcj] using hc0
        · simpa [Addr.add, h0, hcj] using hc0
      obtain ⟨v2, w2, hr2, g2, _⟩ := run_append_arg_grows (P := P) (w := w) t ty e i0 z size bytes hu hi hz0 hz1 hz2 hz hs' ⟨g, 0, none⟩ n cap xs hown.1 holds ⟨ab, ao, none⟩ m c news hl hc' (by omega) (le_maxLen hb hby) hb
      rw [hr] at hr2
      injection hr2 with e1 e2
      subst e1 e2
      exact own_new g2 (by omega) _

/-- the slice written out, and where it lies -/
theorem wpList_appd (E : Elem P t e size bytes z) {w : World} {ops : Array Oper} {rest : List Oper} {o : Oper} {a : Act} {Q : Exit → Act → World → Prop} (hgd : o.guard = none) {base n m : Nat} {v : Value} {xs news : List Value} (hown : w.ownsRow base e size v n xs)
    (s x : Operand) (ho : o.op = .call { callee := .builtin .append, args := #[s, x], argTypes := #[t, t] }) (hs : a.eval s = v) (hx : a.eval x = .slice (some ⟨w.heap.size, 0, none⟩) m m)
    (hm : 0 < m) (hl : news.length = m * size) (h1 : ∀ u ∈ news, u.oneCell' = true) (hb : (n + m) * bytes ≤ 140737488355328) (hbase : base ≤ w.heap.size)
    (h : ∀ A c w', n + m ≤ c → c ≤ maxLen → w'.ownsRow base e size (.slice A (n + m) c) (n + m) (xs ++ news) → w.grownBy w' v.ownBlock → SameOrNew w.heap.size v (.slice A (n + m) c) → wpList P ops Q rest (a.put o.dst (.slice A (n + m) c)) w') : wpList P ops Q (o :: rest) a (w.alloc (.cells news.toArray e)) :=
  wpList_plain hgd fun K hK => by
    obtain ⟨v', w', hr, h2, h3, h4⟩ := run_app_apart E (w.alloc (.cells news.toArray e)) o.type (hown.alloc _) (sl_new w news e) hm hl h1 hb (by simp; omega) (c := m)
    obtain ⟨A, c, rfl, h5, h6⟩ := own_shape h2
    unfold Oper.wp execOp
    simp only [ho, resolve, invoke, builtin, Sem.run_bind, Sem.run_pure, Result.andThen_ok, List.map_toArray, List.map_cons, List.map_nil, hs, hx, hr]
    exact hK _ _ (h A c w' h5 h6 h2 (grownBy_of_alloc h3) (h4.imp id fun ⟨g, e1, e2⟩ => ⟨g, e1, by rw [World.size_alloc] at e2; omega⟩))
end
end Go.Proofs.Ytnkkpdpjkfjmnaa.Me
