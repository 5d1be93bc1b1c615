/-
  Plain laws: a pattern that is repeated, and the pattern written out so often.
-/
import Derived.Test.YtnkkpdpjkfjmnaaLPointersW
namespace Go.Proofs.Ytnkkpdpjkfjmnaa.Pu
set_option linter.unusedVariables false

/-- the steps say f up to m, but for noughts at the end -/
def PatOk (f : Nat → Bool) (l : List Op) (m : Nat) : Prop := ∃ s, ofL .empty l = some s ∧ s.long ≤ m ∧ (∀ i, i < s.long → bit s i = f i) ∧ ∀ i, s.long ≤ i → i < m → f i = false

theorem patOk_nil (f : Nat → Bool) : PatOk f [] 0 := ⟨.empty, rfl, Nat.le_refl _, fun i hi => by simp [Bs.empty] at hi, fun i _ hi => by omega⟩

theorem patOk_off {f : Nat → Bool} {l : List Op} {m : Nat} (h : PatOk f l m) (hf : f m = false) : PatOk f l (m + 1) := by
  obtain ⟨s, hs, h1, h2, h3⟩ := h
  refine ⟨s, hs, by omega, h2, fun i hi hi2 => ?_⟩
  by_cases him : i < m
  · exact h3 i hi him
  · rw [show i = m by omega]; exact hf

theorem patOk_on {f : Nat → Bool} {l : List Op} {m : Nat} (h : PatOk f l m) (hf : f m = true) (hm : m + 1 ≤ 1152921504606846976) : PatOk f (l ++ [⟨0, (m : Int), 0⟩]) (m + 1) := by
  obtain ⟨s, hs, h1, h2, h3⟩ := h
  obtain ⟨y, hy, hyl, g1, g2, g3⟩ := ptr_step (s := s) (m - s.long) (by omega)
  rw [show s.long + (m - s.long) = m by omega] at hy hyl g3
  refine ⟨y, by rw [ofL_snoc hs]; exact hy, by omega, fun i hi => ?_, fun i hi hi2 => by omega⟩
  by_cases his : i < s.long
  · rw [g1 i his, h2 i his]
  · by_cases him : i < m
    · have := g2 (i - s.long) (by omega)
      rw [show s.long + (i - s.long) = i by omega] at this
      rw [this, h3 i (by omega) him]
    · rw [show i = m by omega, g3, hf]

theorem patOk_zero {f : Nat → Bool} {l : List Op} {m : Nat} (h : PatOk f l m) (hm : m ≤ 1152921504606846976) : ∃ s, ofL .empty (l ++ [⟨1, (m : Int), 0⟩]) = some s ∧ s.long = m ∧ ∀ i, i < m → bit s i = f i := by
  obtain ⟨s, hs, h1, h2, h3⟩ := h
  obtain ⟨x, hx, zx⟩ := zeroTo_some (b := s) h1 hm
  refine ⟨x, by rw [ofL_snoc hs, ofStep_zero, hx], by rw [zx.1]; omega, fun i hi => ?_⟩
  by_cases his : i < s.long
  · rw [zx.2.2.1 i his, h2 i his]
  · have := zx.2.2.2 (i - s.long) (by omega)
    rw [show s.long + (i - s.long) = i by omega] at this
    rw [this, h3 i (by omega) hi]

theorem rep_same {f : Nat → Bool} {sh al : List Op} {L T : Nat} (hL : 1 ≤ L) (hb : L * (T + 1) ≤ 1152921504606846976) (h1 : PatOk f sh L) (h2 : PatOk (fun i => f (i % L)) al (L * (T + 1))) :
    ∃ s t, ofL .empty (sh ++ [⟨1, (L : Int), 0⟩, ⟨2, (L : Int), (T : Int)⟩]) = some s ∧ ofL .empty (al ++ [⟨1, ((L * (T + 1) : Nat) : Int), 0⟩]) = some t ∧ Same s t := by
  have hLb : L ≤ L * (T + 1) := Nat.le_mul_of_pos_right _ (by omega)
  obtain ⟨x, hx, hxl, hxb⟩ := patOk_zero h1 (by omega)
  obtain ⟨t, ht, htl, htb⟩ := patOk_zero h2 hb
  have e1 : L + L * T = L * (T + 1) := by rw [Nat.mul_succ]; omega
  obtain ⟨s, hs⟩ := again_some (b := x) (n := x.long) (c := T) (by omega) (Nat.le_refl _) (by rw [hxl]; omega)
  have hsl := (again_long hs).1
  rw [hxl, e1] at hsl
  refine ⟨s, t, ?_, ht, by omega, fun i hi => ?_⟩
  · rw [show sh ++ [(⟨1, (L : Int), 0⟩ : Op), ⟨2, (L : Int), (T : Int)⟩] = (sh ++ [⟨1, (L : Int), 0⟩]) ++ [⟨2, (L : Int), (T : Int)⟩] by simp, ofL_snoc hx, ofStep_rep, ← hxl, hs]
  · rw [again_mod hs hi, htb i (by omega), hxl, hxb _ (Nat.mod_lt _ (by omega))]
end Go.Proofs.Ytnkkpdpjkfjmnaa.Pu
