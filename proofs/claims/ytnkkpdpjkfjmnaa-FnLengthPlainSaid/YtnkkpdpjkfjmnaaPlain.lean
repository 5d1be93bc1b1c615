/-
  Plain laws of steps: noughts twice, repeats never and twice. And the words for a slice written out.
-/
import Derived.Test.YtnkkpdpjkfjmnaaWSame
import Derived.Test.YtnkkpdpjkfjmnaaOpen
namespace Go.Proofs.Ytnkkpdpjkfjmnaa
open Go.RowKit
set_option linter.unusedVariables false

theorem Me.Sl.new (w : World) (t : TypeId) (cs : Array Value) (xs : List Value) (h : cs.toList = xs) (B : Nat) (hB : w.heap.size < B) : Me.Sl (w.alloc (.cells cs t)) B (some ⟨w.heap.size, 0, none⟩) xs := by
  refine .inr ⟨w.heap.size, 0, rfl, hB, fun j u hj => ?_⟩
  rw [Nat.zero_add, (Me.Blk.new w t cs).cell j]
  subst h
  simpa using hj

/-! ### one world behind another -/
theorem bstep {w w1 w2 : World} (h : Below w.heap.size w w1) (g : Below w1.heap.size w1 w2) : Below w.heap.size w w2 := h.trans (g.mono h.size)
theorem balloc {w w1 : World} (h : Below w.heap.size w w1) (o : Obj) : Below w.heap.size w (w1.alloc o) := h.alloc h.size o
theorem bnew (w : World) (o : Obj) : Below w.heap.size w (w.alloc o) := (Below.refl _ _).alloc (Nat.le_refl _) o
theorem slAt {w w1 : World} {A : Option Addr} {xs : List Value} (hS : Me.Sl w w.heap.size A xs) (h : Below w.heap.size w w1) : Me.Sl w1 w1.heap.size A xs := (hS.below h (Nat.le_refl _)).more h.size

namespace Pu
theorem zeroTo_some {b : Bs} {N : Nat} (h1 : b.long ≤ N) (h2 : N ≤ 1152921504606846976) : ∃ b', zeroTo b N = some b' ∧ Zeros b b' (N - b.long) := by
  obtain ⟨b', h⟩ := add_some (b := b) (n := N - b.long) (back := 0) (l := none) (by omega)
  have h' : zeroTo b N = some b' := by
    unfold zeroTo
    rw [if_pos (by omega), ← h]
    congr 1; omega
  obtain ⟨M, e, _, hz⟩ := zeroTo_zeros h'
  have : M = N := by omega
  subst this
  exact ⟨b', h', hz⟩

theorem Zeros.trans {a b c : Bs} {k m : Nat} (h : Zeros a b k) (g : Zeros b c m) : Zeros a c (k + m) := by
  refine ⟨by rw [g.1, h.1]; omega, g.2.1, fun i hi => ?_, fun j hj => ?_⟩
  · rw [g.2.2.1 i (by rw [h.1]; omega), h.2.2.1 i hi]
  · by_cases hjk : j < k
    · rw [g.2.2.1 _ (by rw [h.1]; omega), h.2.2.2 j hjk]
    · have := g.2.2.2 (j - k) (by omega)
      rw [h.1] at this
      rw [← this]; congr 1; omega

theorem ofL_snoc {l : List Op} {b : Bs} (hl : ofL .empty l = some b) (o : Op) : ofL .empty (l ++ [o]) = ofStep b o := by
  rw [ofL_append, hl]
  simp [ofL]

theorem ofL_snoc2 {l : List Op} {b b' : Bs} (hl : ofL .empty l = some b) {o : Op} (ho : ofStep b o = some b') (p : Op) : ofL .empty (l ++ [o, p]) = ofStep b' p := by
  rw [ofL_append, hl]
  simp [ofL, ho]

theorem ofStep_zero (b : Bs) (n c : Int) : ofStep b ⟨1, n, c⟩ = zeroTo b n := by simp [ofStep]
theorem ofStep_rep (b : Bs) (n c : Int) : ofStep b ⟨2, n, c⟩ = again b n c := by simp [ofStep]
theorem ofStep_ptr (b : Bs) (n c : Int) : ofStep b ⟨0, n, c⟩ = (zeroTo b n).bind fun b' => add b' 1 (some [true]) 0 := by simp [ofStep]

theorem zeros_twice {l : List Op} {b : Bs} (hl : ofL .empty l = some b) (n m : Nat) (h1 : b.long ≤ n) (h2 : n ≤ m) (h3 : m ≤ 1152921504606846976) :
    ∃ s t, ofL .empty (l ++ [⟨1, n, 0⟩, ⟨1, m, 0⟩]) = some s ∧ ofL .empty (l ++ [⟨1, m, 0⟩]) = some t ∧ Same s t := by
  obtain ⟨x, hx, zx⟩ := zeroTo_some (b := b) h1 (by omega)
  obtain ⟨s, hs, zs⟩ := zeroTo_some (b := x) (N := m) (by rw [zx.1]; omega) h3
  obtain ⟨t, ht, zt⟩ := zeroTo_some (b := b) (N := m) (by omega) h3
  refine ⟨s, t, ?_, ?_, ?_⟩
  · rw [ofL_snoc2 hl ((ofStep_zero _ _ _).trans hx), ofStep_zero, hs]
  · rw [ofL_snoc hl, ofStep_zero, ht]
  · have h := zx.trans zs
    rw [zx.1, show n - b.long + (m - (b.long + (n - b.long))) = m - b.long by omega] at h
    exact h.same zt

theorem repeat_never {l : List Op} {b : Bs} (hl : ofL .empty l = some b) (n : Nat) (h1 : 1 ≤ n) (h2 : n ≤ b.long) : ofL .empty (l ++ [⟨2, n, 0⟩]) = some b := by
  have hb := (ofL_long hl).2 (by simp [Bs.empty])
  obtain ⟨b', h⟩ := again_some (b := b) (n := n) (c := 0) h1 h2 (by omega)
  rw [ofL_snoc hl, ofStep_rep]
  have h' := h
  unfold again at h
  split at h
  · cases h
  · unfold add at h
    simp only [Int.mul_zero, Int.toNat_zero, Nat.add_zero, Nat.lt_irrefl, if_false, Int.natCast_zero] at h
    split at h
    · cases h
    · injection h with h
      rw [show some b = some b' from congrArg some h]
      exact h'

theorem again_mod {b b' : Bs} {c : Nat} (h : again b b.long c = some b') {i : Nat} (hi : i < b'.long) : bit b' i = bit b (i % b.long) := by
  have hp := (again_good h).1
  have hlen := (again_long h).1
  by_cases hib : i < b.long
  · rw [again_bit_old h hib, Nat.mod_eq_of_lt hib]
  · obtain ⟨j, rfl⟩ : ∃ j, i = b.long + j := ⟨i - b.long, by omega⟩
    rw [again_bit_new h (by omega), Nat.sub_self, Nat.zero_add, Nat.add_mod_left]

theorem repeat_twice {l : List Op} {b : Bs} (hl : ofL .empty l = some b) (c d : Nat) (h1 : 1 ≤ b.long) (h2 : b.long * (c + 1) * (d + 1) ≤ 1152921504606846976) :
    ∃ s t, ofL .empty (l ++ [⟨2, b.long, c⟩, ⟨2, ((b.long * (c + 1) : Nat) : Int), d⟩]) = some s ∧ ofL .empty (l ++ [⟨2, b.long, (((c + 1) * (d + 1) - 1 : Nat) : Int)⟩]) = some t ∧ Same s t := by
  have e1 : b.long + b.long * c = b.long * (c + 1) := by rw [Nat.mul_succ]; omega
  have hpos : b.long * (c + 1) ≤ b.long * (c + 1) * (d + 1) := Nat.le_mul_of_pos_right _ (by omega)
  obtain ⟨x, hx⟩ := again_some (b := b) (n := b.long) (c := c) h1 (Nat.le_refl _) (by omega)
  have lx := (again_long hx).1
  rw [e1] at lx
  have e2 : b.long * (c + 1) + b.long * (c + 1) * d = b.long * (c + 1) * (d + 1) := by rw [Nat.mul_succ _ d]; omega
  have hx1 : 1 ≤ b.long * (c + 1) := Nat.le_trans h1 (Nat.le_mul_of_pos_right _ (by omega))
  obtain ⟨s, hs⟩ := again_some (b := x) (n := x.long) (c := d) (by omega) (Nat.le_refl _) (by rw [lx]; omega)
  have ls := (again_long hs).1
  rw [lx, e2] at ls
  have e3 : b.long + b.long * ((c + 1) * (d + 1) - 1) = b.long * (c + 1) * (d + 1) := by
    have hq : 1 ≤ (c + 1) * (d + 1) := Nat.mul_pos (by omega) (by omega)
    obtain ⟨q, hq⟩ : ∃ q, (c + 1) * (d + 1) = q + 1 := ⟨(c + 1) * (d + 1) - 1, by omega⟩
    rw [Nat.mul_assoc, hq, Nat.add_sub_cancel, Nat.mul_succ]; omega
  obtain ⟨t, ht⟩ := again_some (b := b) (n := b.long) (c := (c + 1) * (d + 1) - 1) h1 (Nat.le_refl _) (by omega)
  have lt := (again_long ht).1
  rw [e3] at lt
  refine ⟨s, t, ?_, ?_, by rw [ls, lt], fun i hi => ?_⟩
  · rw [ofL_snoc2 hl ((ofStep_rep _ _ _).trans hx), ofStep_rep, ← lx, hs]
  · rw [ofL_snoc hl, ofStep_rep, ht]
  · have hmod : i % x.long < x.long := Nat.mod_lt _ (by omega)
    rw [again_mod hs hi, again_mod hx hmod, again_mod ht (by omega), lx, Nat.mod_mod_of_dvd _ (Nat.dvd_mul_right _ _)]
end Pu
end Go.Proofs.Ytnkkpdpjkfjmnaa
