/-
  Plain laws of the program in which each step stands by itself.
-/
import Derived.Test.YtnkkpdpjkfjmnaaPlain
namespace Go.Proofs.Ytnkkpdpjkfjmnaa.Pu
set_option linter.unusedVariables false

/-- what is written so far is read to b, and b says what s says -/
structure Rds (out : List Nat) (b s : Bs) : Prop where
  reads : ∀ rest, rd .empty (out ++ rest) = rd b rest
  same : Same b s
  max : s.long ≤ 1152921504606846976

theorem rds_empty : Rds [] .empty .empty := ⟨fun _ => rfl, Same.refl _, by simp [Bs.empty]⟩

theorem rds_bit {out : List Nat} {b s s' : Bs} (h : Rds out b s) (x : Bool) (hl : s'.long = s.long + 1) (hm : s'.long ≤ 1152921504606846976) (ho : ∀ i, i < s.long → bit s' i = bit s i) (hx : bit s' s.long = x) : ∃ b', Rds (out ++ (1 :: pack [x])) b' s' := by
  have hbl := h.same.1
  obtain ⟨b', hb'⟩ := add_some (b := b) (n := 1) (back := 0) (l := some [x]) (by omega)
  have hlong := (add_long hb').1
  refine ⟨b', fun rest => ?_, ⟨by omega, fun i hi => ?_⟩, hm⟩
  · rw [List.append_assoc, h.reads, List.cons_append]
    exact rd_some (by omega) (step_lit_some rfl (by simp) hb')
  · by_cases hlt : i < b.long
    · rw [add_bit_old hb' hlt, h.same.2 i hlt, ho i (by omega)]
    · have hi' : i = b.long + 0 := by omega
      rw [hi', add_bit_list hb' (by omega), Nat.add_zero, hbl, hx]
      rfl

theorem rds_rep {out : List Nat} {b s s' : Bs} (h : Rds out b s) {n c : Nat} (hs : again s n c = some s') : ∃ b', Rds (out ++ (codeOf n ++ enc c)) b' s' := by
  have hg := again_good hs
  have hl := again_long hs
  have hbl := h.same.1
  have hm := h.max
  have hcn : c ≤ n * c := Nat.le_mul_of_pos_left c (by omega)
  obtain ⟨b', hb'⟩ := again_some (b := b) (n := n) (c := c) hg.1 (by omega) (by omega)
  have hlb := again_long hb'
  refine ⟨b', fun rest => ?_, ⟨by omega, fun i hi => ?_⟩, hl.1 ▸ hl.2⟩
  · rw [List.append_assoc, h.reads]
    exact step_code hg.1 (by omega) (by omega) hb'
  · by_cases hlt : i < b.long
    · rw [again_bit_old hb' hlt, again_bit_old hs (by omega), h.same.2 i hlt]
    · obtain ⟨j, rfl⟩ : ∃ j, i = b.long + j := ⟨i - b.long, by omega⟩
      rw [again_bit_new hb' (by omega), hbl, again_bit_new hs (by omega), ← hbl, h.same.2 _ (by have := Nat.mod_lt j (show 0 < n by omega); omega)]

/-- the code of some noughts -/
def zc (k : Nat) : List Nat := if k = 1 then [1, 0] else if 1 < k then [1, 0, 129] ++ enc (k - 1) else []

theorem pack_true : pack [true] = [1] := by decide
theorem pack_false : pack [false] = [0] := by decide
theorem codeOf_one : codeOf 1 = [129] := by decide

theorem rds_zeros {out : List Nat} {b s s' : Bs} (h : Rds out b s) {k : Nat} (hz : Zeros s s' k) : ∃ b', Rds (out ++ zc k) b' s' := by
  have hm := h.max
  unfold zc
  by_cases h1 : k = 1
  · rw [if_pos h1]
    subst h1
    have := rds_bit h false hz.1 hz.2.1 hz.2.2.1 (by simpa using hz.2.2.2 0 (by omega))
    rw [pack_false] at this
    exact this
  · rw [if_neg h1]
    by_cases h2 : 1 < k
    · rw [if_pos h2]
      have hkl := hz.1
      have hkm := hz.2.1
      obtain ⟨x, zx⟩ := exists_zeros (s := s) (k := 1) (by omega)
      obtain ⟨b1, r1⟩ := rds_bit h false zx.1 zx.2.1 zx.2.2.1 (by simpa using zx.2.2.2 0 (by omega))
      have hxl := zx.1
      obtain ⟨y, hy⟩ := again_some (b := x) (n := 1) (c := k - 1) (by omega) (by omega) (by omega)
      obtain ⟨b2, r2⟩ := rds_rep r1 hy
      have hyl := (again_long hy).1
      refine ⟨b2, ?_, r2.same.trans ⟨by omega, fun i hi => ?_⟩, hz.2.1⟩
      · intro rest
        have := r2.reads rest
        rw [pack_false, codeOf_one] at this
        simpa using this
      · by_cases hix : i < x.long
        · rw [again_bit_old hy hix]
          by_cases his : i < s.long
          · rw [zx.2.2.1 i his, hz.2.2.1 i his]
          · have e : i = s.long + 0 := by omega
            rw [e, zx.2.2.2 0 (by omega), hz.2.2.2 0 (by omega)]
        · obtain ⟨j, rfl⟩ : ∃ j, i = x.long + j := ⟨i - x.long, by omega⟩
          rw [again_bit_new hy (by omega), Nat.mod_one, show x.long - 1 + 0 = s.long + 0 by omega, zx.2.2.2 0 (by omega), show x.long + j = s.long + (1 + j) by omega, hz.2.2.2 _ (by omega)]
    · rw [if_neg h2]
      have h0 : k = 0 := by omega
      subst h0
      refine ⟨b, by simpa using h.reads, h.same.trans ⟨hz.1.symm, fun i hi => (hz.2.2.1 i hi).symm⟩, hz.2.1⟩

/-- one step: what it asks, what is written for it, and how long it is by itself -/
theorem rds_step {out : List Nat} {b s s' : Bs} {o : Op} (h : Rds out b s) (hs : ofStep s o = some s') :
    (∃ N : Nat, o.kind = 0 ∧ o.n = N ∧ s.long ≤ N ∧ N < 1152921504606846976 ∧ s'.long = N + 1 ∧ (∃ b', Rds (out ++ zc (N - s.long) ++ [1, 1]) b' s') ∧ ∃ x, ofL .empty [o] = some x ∧ x.long = N + 1) ∨
    (∃ N : Nat, o.kind = 1 ∧ o.n = N ∧ s.long ≤ N ∧ N ≤ 1152921504606846976 ∧ s'.long = N ∧ (∃ b', Rds (out ++ zc (N - s.long)) b' s') ∧ ∃ x, ofL .empty [o] = some x ∧ x.long = N) ∨
    (∃ N C : Nat, o.kind = 2 ∧ o.n = N ∧ o.c = C ∧ 1 ≤ N ∧ N ≤ s.long ∧ s.long + N * C ≤ 1152921504606846976 ∧ C ≤ 1152921504606846976 ∧ s'.long = s.long + N * C ∧ (∃ b', Rds (out ++ codeOf N ++ enc C) b' s') ∧ ofL .empty [o] = none) := by
  have hone : ofL .empty [o] = ofStep .empty o := by
    simp only [ofL]
    cases ofStep .empty o <;> rfl
  rcases step_cases hs with ⟨N, hk, hn, h1, h2⟩ | ⟨N, hk, hn, h1, h2⟩ | ⟨N, C, hk, hn, hc, h1, h2, h3⟩
  · left
    have hst : (zeroTo s N).bind (fun b' => add b' 1 (some [true]) 0) = some s' := by rw [← hs]; unfold ofStep; rw [if_pos hk, hn]
    obtain ⟨x, hx, zx⟩ := zeroTo_some (b := s) (N := N) h1 (by omega)
    rw [hx] at hst
    have ha : add x 1 (some [true]) 0 = some s' := hst
    have hl := add_long ha
    have hxl := zx.1
    obtain ⟨b1, r1⟩ := rds_zeros h zx
    obtain ⟨b2, r2⟩ := rds_bit r1 true hl.1 (by omega) (fun i hi => add_bit_old ha hi) (by have := add_bit_list ha (j := 0) (by omega); rw [Nat.add_zero] at this; exact this)
    rw [pack_true] at r2
    obtain ⟨y, hy, zy⟩ := zeroTo_some (b := .empty) (N := N) (by simp [Bs.empty]) (by omega)
    have hyl := zy.1
    simp only [Bs.empty] at hyl
    obtain ⟨z, hz⟩ := add_some (b := y) (n := 1) (back := 0) (l := some [true]) (by omega)
    refine ⟨N, hk, hn, h1, h2, by omega, ⟨b2, r2⟩, z, ?_, by have := (add_long hz).1; omega⟩
    rw [hone]; unfold ofStep; rw [if_pos hk, hn, hy]; exact hz
  · right; left
    have hst : zeroTo s N = some s' := by rw [← hs]; unfold ofStep; rw [if_neg (by omega), if_pos hk, hn]
    obtain ⟨x, hx, zx⟩ := zeroTo_some (b := s) (N := N) h1 h2
    rw [hx] at hst
    injection hst with hst
    subst hst
    have hxl := zx.1
    obtain ⟨y, hy, zy⟩ := zeroTo_some (b := .empty) (N := N) (by simp [Bs.empty]) h2
    have hyl := zy.1
    simp only [Bs.empty] at hyl
    refine ⟨N, hk, hn, h1, h2, by omega, rds_zeros h zx, y, ?_, by omega⟩
    rw [hone]; unfold ofStep; rw [if_neg (by omega), if_pos hk, hn]; exact hy
  · right; right
    have hst : again s N C = some s' := by rw [← hs]; unfold ofStep; rw [if_neg (by omega), if_neg (by omega), if_pos hk, hn, hc]
    have hl := again_long hst
    have hCN : C ≤ N * C := Nat.le_mul_of_pos_left C (by omega)
    obtain ⟨b1, r1⟩ := rds_rep h hst
    refine ⟨N, C, hk, hn, hc, h1, h2, h3, by omega, hl.1, ⟨b1, by rw [List.append_assoc]; exact r1⟩, ?_⟩
    rw [hone]; unfold ofStep; rw [if_neg (by omega), if_neg (by omega), if_pos hk, hn]
    unfold again againBad
    rw [if_pos]
    simp [Bs.empty]
    omega

theorem enc_len9 {n : Nat} (h : n ≤ 1152921504606846976) : (enc n).length ≤ 9 := enc_len 8 n (by simpa using (by omega : n < 9223372036854775808))
theorem zc_len {k : Nat} (h : k ≤ 1152921504606846976) : (zc k).length ≤ 12 := by
  unfold zc
  split
  · simp
  · split
    · have := enc_len9 (n := k - 1) (by omega)
      simp; omega
    · simp
theorem codeOf_len10 {n : Nat} (h : n ≤ 1152921504606846976) : (codeOf n).length ≤ 10 := by
  unfold codeOf
  split
  · simp
  · have := enc_len9 h
    simp; omega

theorem rds_end {out : List Nat} {b s : Bs} (h : Rds out b s) : rd .empty (out ++ [0]) = some b := by
  rw [h.reads, rd_zero]; simp
end Go.Proofs.Ytnkkpdpjkfjmnaa.Pu
