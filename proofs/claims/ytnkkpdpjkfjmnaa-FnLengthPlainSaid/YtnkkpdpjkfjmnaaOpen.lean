/-
  A slice of steps that came in, opened to its cells.
-/
import Derived.Test.YtnkkpdpjkfjmnaaWOf
import Derived.ProofKit
import Derived.Deep.Slices
import Derived.Deep.Fields
import Derived.OpenShut
namespace Go.Proofs.Ytnkkpdpjkfjmnaa
open Go.ChangeShapes Go.WideShapes Go.ChangeAt Go.RowKit
set_option linter.unusedVariables false

/-- what the walk is told of a slice of steps that came in -/
def IsOps (w : World) (a : Option Addr) (len cap : Nat) (l : List Pu.Op) : Prop :=
  l.length = len ∧ len ≤ cap ∧ cap ≤ maxLen ∧ Fits l ∧ Me.Sl w w.heap.size a (opCells l)

theorem opCells_at {l : List Pu.Op} {k : Nat} {u : Value} (h : (opCells l)[k]? = some u) :
    ∃ i o, l[i]? = some o ∧ ((k = i * 3 ∧ u = .int .i64 o.kind) ∨ (k = i * 3 + 1 ∧ u = .int .i64 o.n) ∨ (k = i * 3 + 2 ∧ u = .int .i64 o.c)) := by
  induction l generalizing k with
  | nil => simp [opCells] at h
  | cons o l ih =>
    match k with
    | 0 => simp [opCells] at h; exact ⟨0, o, rfl, .inl ⟨rfl, h.symm⟩⟩
    | 1 => simp [opCells] at h; exact ⟨0, o, rfl, .inr (.inl ⟨rfl, h.symm⟩)⟩
    | 2 => simp [opCells] at h; exact ⟨0, o, rfl, .inr (.inr ⟨rfl, h.symm⟩)⟩
    | k + 3 =>
      simp [opCells] at h
      obtain ⟨i, p, hi, hh⟩ := ih h
      refine ⟨i + 1, p, by simpa using hi, ?_⟩
      rcases hh with ⟨h1, h2⟩ | ⟨h1, h2⟩ | ⟨h1, h2⟩
      · exact .inl ⟨by omega, h2⟩
      · exact .inr (.inl ⟨by omega, h2⟩)
      · exact .inr (.inr ⟨by omega, h2⟩)

theorem cells45 : Try.prog.cellsOf 45 = 3 := by kernel_rfl
theorem cells3 : Try.prog.cellsOf 3 = 1 := by kernel_rfl
theorem cells2 : Try.prog.cellsOf 2 = 1 := by kernel_rfl

section
variable {H : Type} {enc : TypeId × Value → H} {W : World}

/-- one step -/
theorem open_op {n : Nat} {cs : List Value} {y : DataW H × List MemPlace} {a : Addr} (hc : W.cells? 0 a 3 = some cs) (ht : DataW.trod enc Try.prog W 0 (fun _ => true) true n 45 cs = some y) :
    ∃ o : Pu.Op, Fits [o] ∧ W.cell? a = some (.int .i64 o.kind) ∧ W.cell? (a.add 1) = some (.int .i64 o.n) ∧ W.cell? (a.add 2) = some (.int .i64 o.c) := by
  obtain ⟨_, hl, hat⟩ := World.cells?_some hc
  obtain ⟨ys, n', _, _, _, hyl, hg⟩ := DataW.trod_struct Try.underlying45 ht
  match cs, hl with
  | [v0, v1, v2], _ =>
    have g0 := hg 0 _ rfl
    have g1 := hg 1 _ rfl
    have g2 := hg 2 _ rfl
    have e0 : ys[0]? = some (ys[0]'(by rw [hyl]; decide)) := List.getElem?_eq_getElem _
    have e1 : ys[1]? = some (ys[1]'(by rw [hyl]; decide)) := List.getElem?_eq_getElem _
    have e2 : ys[2]? = some (ys[2]'(by rw [hyl]; decide)) := List.getElem?_eq_getElem _
    rw [e0] at g0
    rw [e1] at g1
    rw [e2] at g2
    obtain ⟨k, q0, _, wk⟩ := DataW.trod_int Try.underlying3 g0
    obtain ⟨x, q1, _, wx⟩ := DataW.trod_int Try.underlying2 g1
    obtain ⟨z, q2, _, wz⟩ := DataW.trod_int Try.underlying2 g2
    have r0 : v0 = .int .i64 k := by simpa [cells3] using q0
    have r1 : v1 = .int .i64 x := by simpa [cells2] using q1
    have r2 : v2 = .int .i64 z := by simpa [cells2] using q2
    subst r0 r1 r2
    refine ⟨⟨k, x, z⟩, ?_, ?_, hat 1 (by omega), hat 2 (by omega)⟩
    · intro o ho
      simp at ho
      subst ho
      exact ⟨Me.wf_i64 wk, Me.wf_i64 wx, Me.wf_i64 wz⟩
    · have := hat 0 (by omega)
      simpa [Addr.add] using this

theorem open_ops {fuel : Nat} {a : Option Addr} {len cap : Nat} {x : DataW H × List MemPlace} (h : DataW.trod enc Try.prog W 0 (fun _ => true) true fuel 35 [.slice a len cap] = some x) : ∃ l, IsOps W a len cap l := by
  rcases Go.Deep.open_slice Try.underlying35 h with ⟨hcs, _⟩ | ⟨ad, len', cap', m, n, D, Pl, hcs, _, hl, hm, hmm, _, hi⟩
  · simp at hcs
    obtain ⟨rfl, rfl, rfl⟩ := hcs
    exact ⟨[], rfl, Nat.le_refl _, by simp [maxLen], fun o ho => by simp at ho, .inl rfl⟩
  · simp at hcs
    obtain ⟨rfl, rfl, rfl⟩ := hcs
    simp only [if_true] at hmm
    subst hmm
    rw [cells45] at hi
    have key : ∀ k, k ≤ len → ∃ l : List Pu.Op, l.length = k ∧ Fits l ∧ ∀ i o, l[i]? = some o → W.cell? (ad.add (i * 3)) = some (.int .i64 o.kind) ∧ W.cell? (ad.add (i * 3 + 1)) = some (.int .i64 o.n) ∧ W.cell? (ad.add (i * 3 + 2)) = some (.int .i64 o.c) := by
      intro k
      induction k with
      | zero => exact fun _ => ⟨[], rfl, fun o ho => by simp at ho, fun i o ho => by simp at ho⟩
      | succ k ih =>
        intro hk
        obtain ⟨l, hll, hf, hlc⟩ := ih (by omega)
        obtain ⟨cs', hc, ht⟩ := hi k (by omega)
        obtain ⟨o, ho, c0, c1, c2⟩ := open_op hc ht
        rw [Go.Deep.add_add] at c1 c2
        refine ⟨l ++ [o], by simp [hll], fun p hp => ?_, fun i p hp => ?_⟩
        · rcases List.mem_append.1 hp with hp | hp
          · exact hf p hp
          · exact ho p hp
        · by_cases hik : i < l.length
          · rw [List.getElem?_append_left hik] at hp
            exact hlc i p hp
          · have : i = k := by
              have := (List.getElem?_eq_some_iff.1 hp).1
              simp at this; omega
            subst this
            rw [List.getElem?_append_right (by omega), hll, Nat.sub_self] at hp
            simp at hp
            subst hp
            exact ⟨c0, c1, c2⟩
    obtain ⟨l, hll, hf, hlc⟩ := key len (Nat.le_refl _)
    refine ⟨l, hll, hl, hm, hf, ?_⟩
    by_cases h0 : len = 0
    · subst h0
      have : l = [] := List.eq_nil_of_length_eq_zero hll
      subst this
      exact .inl rfl
    · right
      obtain ⟨o, ho⟩ : ∃ o, l[0]? = some o := ⟨l[0], List.getElem?_eq_getElem (by omega)⟩
      have hc0 := (hlc 0 o ho).1
      obtain ⟨b, off, spot⟩ := ad
      have hc0' : W.cell? ⟨b, off, spot⟩ = some (.int .i64 o.kind) := by simpa [Addr.add] using hc0
      have hspot : spot = none := by simpa using World.cell?_spot hc0'
      subst hspot
      refine ⟨b, off, rfl, World.block_lt_of_cell? W _ hc0', fun j u hj => ?_⟩
      have hadd : ∀ k, (⟨b, off, none⟩ : Addr).add k = ⟨b, off + k, none⟩ := by intro k; unfold Addr.add; split <;> simp_all
      obtain ⟨i, p, hi', hh⟩ := opCells_at hj
      obtain ⟨q1, q2, q3⟩ := hlc i p hi'
      rw [hadd] at q1 q2 q3
      rcases hh with ⟨rfl, rfl⟩ | ⟨rfl, rfl⟩ | ⟨rfl, rfl⟩
      · exact q1
      · exact q2
      · exact q3
end
end Go.Proofs.Ytnkkpdpjkfjmnaa
