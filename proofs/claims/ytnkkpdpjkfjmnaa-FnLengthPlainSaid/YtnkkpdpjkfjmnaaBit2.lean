/-
  Plain: the bit at a place of a sequence of bits; what adding and repeating do to it. No program here.
-/
import Derived.Test.YtnkkpdpjkfjmnaaPart
namespace Go.Proofs.Ytnkkpdpjkfjmnaa.Pu

/-- the bit at a place, the last part first -/
def atR : List Part → Nat → Bool
  | [], _ => false
  | p :: r, i =>
    if i < p.start then atR r i
    else if 0 < p.back then atR r (p.start - p.back + (i - p.start) % p.back)
    else match p.list with
      | some l => l.getD (i - p.start) false
      | none => false

def bit (b : Bs) (i : Nat) : Bool := atR b.parts.reverse i

theorem add_bit_old {b b' : Bs} {n back : Nat} {l : Option (List Bool)} (h : add b n l back = some b') {i : Nat} (hi : i < b.long) : bit b' i = bit b i := by
  unfold add at h
  split at h
  · cases h
  · split at h
    · injection h with h
      subst h
      simp [bit, atR, hi]
    · injection h with h
      subst h
      rfl

theorem add_bit_zero {b b' : Bs} {n : Nat} (h : add b n none 0 = some b') {j : Nat} (hj : j < n) : bit b' (b.long + j) = false := by
  unfold add at h
  split at h
  · cases h
  · rw [if_pos (by omega)] at h
    injection h with h
    subst h
    simp [bit, atR]
    intro h0
    omega

theorem add_bit_list {b b' : Bs} {n : Nat} {l : List Bool} (h : add b n (some l) 0 = some b') {j : Nat} (hj : j < n) : bit b' (b.long + j) = l.getD j false := by
  unfold add at h
  split at h
  · cases h
  · rw [if_pos (by omega)] at h
    injection h with h
    subst h
    simp [bit, atR]
    intro h0
    omega

theorem again_good {b b' : Bs} {n c : Nat} (h : again b n c = some b') : 1 ≤ n ∧ n ≤ b.long := by
  unfold again at h
  split at h
  · cases h
  · rename_i hb
    unfold againBad at hb
    simp at hb
    omega

theorem again_bit_old {b b' : Bs} {n c : Int} (h : again b n c = some b') {i : Nat} (hi : i < b.long) : bit b' i = bit b i := by
  unfold again at h
  split at h
  · cases h
  · exact add_bit_old h hi

theorem again_bit_new {b b' : Bs} {n c : Nat} (h : again b n c = some b') {j : Nat} (hj : j < n * c) : bit b' (b.long + j) = bit b (b.long - n + j % n) := by
  have hg := again_good h
  unfold again at h
  split at h
  · cases h
  · have e : ((n : Int) * (c : Int)).toNat = n * c := by rw [← Int.natCast_mul]; exact Int.toNat_natCast _
    rw [e] at h
    unfold add at h
    split at h
    · cases h
    · rw [if_pos (by omega)] at h
      injection h with h
      subst h
      have hn : 0 < n := by omega
      simp only [bit, List.reverse_append, List.reverse_cons, List.reverse_nil, List.nil_append, List.singleton_append, atR, Int.toNat_natCast]
      rw [if_neg (by omega), if_pos hn, Nat.add_sub_cancel_left]

theorem again_some {b : Bs} {n c : Nat} (h1 : 1 ≤ n) (h2 : n ≤ b.long) (h3 : b.long + n * c ≤ 1152921504606846976) : ∃ b', again b n c = some b' := by
  have hc : (c : Int) ≤ 1152921504606846976 / (n : Int) := by
    have h : c ≤ 1152921504606846976 / n := (Nat.le_div_iff_mul_le (by omega)).2 (by rw [Nat.mul_comm]; omega)
    have e : ((1152921504606846976 / n : Nat) : Int) = 1152921504606846976 / (n : Int) := by simp
    rw [← e]
    exact Int.ofNat_le.2 h
  have hbad : againBad b n c = false := by
    unfold againBad
    simp
    omega
  have e : ((n : Int) * (c : Int)).toNat = n * c := by rw [← Int.natCast_mul]; exact Int.toNat_natCast _
  unfold again
  rw [hbad, e]
  simp only [Bool.false_eq_true, if_false]
  unfold add
  rw [if_neg (by omega)]
  split <;> exact ⟨_, rfl⟩

theorem again_inv {b b' : Bs} {n c : Int} (h : again b n c = some b') : ∃ N C : Nat, n = N ∧ c = C := by
  unfold again at h
  split at h
  · cases h
  · rename_i hb
    unfold againBad at hb
    simp at hb
    exact ⟨n.toNat, c.toNat, by omega, by omega⟩

theorem add_some {b : Bs} {n back : Nat} {l : Option (List Bool)} (h : b.long + n ≤ 1152921504606846976) : ∃ b', add b n l back = some b' := by
  unfold add
  rw [if_neg (by omega)]
  split <;> exact ⟨_, rfl⟩

/-- the same bits -/
def Same (a b : Bs) : Prop := a.long = b.long ∧ ∀ i, i < a.long → bit a i = bit b i

theorem Same.refl (a : Bs) : Same a a := ⟨rfl, fun _ _ => rfl⟩
theorem Same.symm {a b : Bs} (h : Same a b) : Same b a := ⟨h.1.symm, fun i hi => (h.2 i (by rw [h.1]; exact hi)).symm⟩
theorem Same.trans {a b c : Bs} (h : Same a b) (k : Same b c) : Same a c := ⟨h.1.trans k.1, fun i hi => (h.2 i hi).trans (k.2 i (by rw [← h.1]; exact hi))⟩

/-! ### steps -/
structure Op where
  kind : Int
  n : Int
  c : Int

def zeroTo (b : Bs) (n : Int) : Option Bs := if (b.long : Int) ≤ n then add b (n - b.long).toNat none 0 else none

def ofStep (b : Bs) (o : Op) : Option Bs :=
  if o.kind = 0 then (zeroTo b o.n).bind fun b' => add b' 1 (some [true]) 0
  else if o.kind = 1 then zeroTo b o.n
  else if o.kind = 2 then again b o.n o.c
  else none

def ofL : Bs → List Op → Option Bs
  | b, [] => some b
  | b, o :: l => (ofStep b o).bind fun b' => ofL b' l

theorem ofL_append (b : Bs) (l m : List Op) : ofL b (l ++ m) = (ofL b l).bind fun b' => ofL b' m := by
  induction l generalizing b with
  | nil => rfl
  | cons o l ih =>
    simp only [List.cons_append, ofL]
    cases ofStep b o with
    | none => rfl
    | some b' => exact ih b'

theorem zeroTo_inv {b b' : Bs} {n : Int} (h : zeroTo b n = some b') : ∃ N : Nat, n = N ∧ b.long ≤ N ∧ add b (N - b.long) none 0 = some b' ∧ b'.long = N ∧ N ≤ 1152921504606846976 := by
  unfold zeroTo at h
  split at h
  · rename_i hle
    refine ⟨n.toNat, by omega, by omega, ?_, ?_⟩
    · rw [← h]; congr 1; omega
    · have := add_long h
      omega
  · cases h

theorem ofStep_long {b b' : Bs} {o : Op} (h : ofStep b o = some b') : b.long ≤ b'.long ∧ b'.long ≤ 1152921504606846976 := by
  unfold ofStep at h
  split at h
  · cases hz : zeroTo b o.n with
    | none => rw [hz] at h; cases h
    | some b1 =>
      rw [hz] at h
      obtain ⟨N, _, h1, _, h3, _⟩ := zeroTo_inv hz
      have := add_long h
      omega
  · split at h
    · obtain ⟨N, _, h1, _, h3, _⟩ := zeroTo_inv h
      omega
    · split at h
      · obtain ⟨N, C, e1, e2⟩ := again_inv h
        rw [e1, e2] at h
        have := again_long h
        omega
      · cases h

theorem ofStep_bit {b b' : Bs} {o : Op} (h : ofStep b o = some b') {i : Nat} (hi : i < b.long) : bit b' i = bit b i := by
  unfold ofStep at h
  split at h
  · cases hz : zeroTo b o.n with
    | none => rw [hz] at h; cases h
    | some b1 =>
      rw [hz] at h
      obtain ⟨N, _, h1, h2, h3, _⟩ := zeroTo_inv hz
      rw [add_bit_old h (by omega), add_bit_old h2 hi]
  · split at h
    · obtain ⟨N, _, h1, h2, h3, _⟩ := zeroTo_inv h
      exact add_bit_old h2 hi
    · split at h
      · exact again_bit_old h hi
      · cases h

theorem ofL_long {b b' : Bs} {l : List Op} (h : ofL b l = some b') : b.long ≤ b'.long ∧ (b.long ≤ 1152921504606846976 → b'.long ≤ 1152921504606846976) := by
  induction l generalizing b with
  | nil => injection h with h; subst h; exact ⟨Nat.le_refl _, id⟩
  | cons o l ih =>
    simp only [ofL] at h
    cases hs : ofStep b o with
    | none => rw [hs] at h; cases h
    | some b1 =>
      rw [hs] at h
      have h1 := ofStep_long hs
      have h2 := ih h
      exact ⟨by omega, fun _ => h2.2 (by omega)⟩

theorem ofL_bit {b b' : Bs} {l : List Op} (h : ofL b l = some b') {i : Nat} (hi : i < b.long) : bit b' i = bit b i := by
  induction l generalizing b with
  | nil => injection h with h; subst h; rfl
  | cons o l ih =>
    simp only [ofL] at h
    cases hs : ofStep b o with
    | none => rw [hs] at h; cases h
    | some b1 =>
      rw [hs] at h
      have h1 := ofStep_long hs
      rw [ih h (by omega), ofStep_bit hs hi]

end Go.Proofs.Ytnkkpdpjkfjmnaa.Pu
