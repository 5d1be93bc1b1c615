/-
  Plain numbers: the remainder from 0 on, the varint encoding of a number and its reading back. No program here.
-/
namespace Go.Proofs.Ytnkkpdpjkfjmnaa.Pu

/-- the remainder from 0 on -/
def plc (n k : Int) : Int := if n.tmod k < 0 then n.tmod k + k else n.tmod k

theorem tmod_bd (n k : Int) (hk : 0 < k) : -k < n.tmod k ∧ n.tmod k < k := by
  have h1 := Int.tmod_lt_of_pos n hk
  have h2 : -k < n.tmod k := by
    have := Int.tmod_lt_of_pos (-n) hk
    rw [Int.neg_tmod] at this
    omega
  exact ⟨h2, h1⟩

theorem plc_bd (n k : Int) (hk : 0 < k) : 0 ≤ plc n k ∧ plc n k < k := by
  have h := tmod_bd n k hk
  unfold plc
  split <;> omega

def plcN (n k : Int) : Nat := (plc n k).toNat
theorem plcN_lt (n k : Int) (hk : 0 < k) : (plcN n k : Int) < k := by
  have := plc_bd n k hk
  unfold plcN; omega

/-- the varint encoding of a number -/
def enc (n : Nat) : List Nat := if 127 < n then (n % 128 + 128) :: enc (n / 128) else [n]
termination_by n
decreasing_by omega

theorem enc_big {n : Nat} (h : 127 < n) : enc n = (n % 128 + 128) :: enc (n / 128) := by rw [enc, if_pos h]
theorem enc_small {n : Nat} (h : ¬ 127 < n) : enc n = [n] := by rw [enc, if_neg h]

theorem enc_ne (n : Nat) : enc n ≠ [] := by
  by_cases h : 127 < n
  · rw [enc_big h]; simp
  · rw [enc_small h]; simp

theorem enc_lt (n : Nat) : ∀ c ∈ enc n, c < 256 := by
  induction n using Nat.strongRecOn with
  | ind n ih =>
    intro c hc
    by_cases h : 127 < n
    · rw [enc_big h] at hc
      rcases List.mem_cons.1 hc with rfl | hc
      · omega
      · exact ih (n / 128) (by omega) c hc
    · rw [enc_small h] at hc
      simp at hc
      omega

/-- a number of at most 62 bits takes at most nine bytes -/
theorem enc_len (k n : Nat) (h : n < 128 ^ (k + 1)) : (enc n).length ≤ k + 1 := by
  induction k generalizing n with
  | zero => rw [enc_small (by simp at h; omega)]; simp
  | succ k ih =>
    by_cases hn : 127 < n
    · rw [enc_big hn]
      have := ih (n / 128) (by rw [Nat.pow_succ] at h; exact Nat.div_lt_of_lt_mul (by omega))
      simp; omega
    · rw [enc_small hn]; simp

/-- reading a number: at the byte i, with what has been read so far; at most 62 bits -/
def decA : Nat → Nat → List Nat → Option (Nat × List Nat)
  | _, _, [] => none
  | i, acc, c :: p =>
    if 8 < i ∨ (i = 8 ∧ 63 < c) then none
    else if c < 128 then some (acc + c * 128 ^ i, p)
    else decA (i + 1) (acc + c % 128 * 128 ^ i) p

def dec (p : List Nat) : Option (Nat × List Nat) := decA 0 0 p

theorem decA_enc (k n i acc : Nat) (rest : List Nat) (hn : n < 128 ^ k * 64) (hi : i + k = 8) : decA i acc (enc n ++ rest) = some (acc + n * 128 ^ i, rest) := by
  induction k generalizing n i acc with
  | zero =>
    rw [enc_small (by simp at hn; omega)]
    simp at hn
    simp only [List.cons_append, List.nil_append, decA]
    rw [if_neg (by omega), if_pos (by omega)]
  | succ k ih =>
    by_cases h : 127 < n
    · rw [enc_big h]
      simp only [List.cons_append, decA]
      rw [if_neg (by omega), if_neg (by omega), ih (n / 128) (i + 1) _ (by
        rw [Nat.pow_succ] at hn
        exact Nat.div_lt_of_lt_mul (by rw [← Nat.mul_assoc, Nat.mul_comm 128]; exact hn)) (by omega)]
      congr 2
      rw [Nat.pow_succ]
      have e : (n % 128 + 128) % 128 = n % 128 := by omega
      rw [e]
      have e2 : n / 128 * (128 ^ i * 128) = (n / 128 * 128) * 128 ^ i := by rw [Nat.mul_comm (128 ^ i), Nat.mul_assoc]
      rw [e2, Nat.add_assoc, ← Nat.add_mul]
      congr 2
      omega
    · rw [enc_small h]
      simp only [List.cons_append, List.nil_append, decA]
      rw [if_neg (by omega), if_pos (by omega)]

theorem dec_enc (n : Nat) (rest : List Nat) (hn : n < 4611686018427387904) : dec (enc n ++ rest) = some (n, rest) := by
  unfold dec
  rw [decA_enc 8 n 0 0 rest (by simpa using hn) rfl]
  simp

/-- what is read is below 2^62, and what follows is a part of what came -/
theorem decA_bd (p : List Nat) (i acc n : Nat) (rest : List Nat) (hp : ∀ c ∈ p, c < 256) (ha : acc < 128 ^ i) (h : decA i acc p = some (n, rest)) :
    n < 128 ^ 8 * 64 ∧ ∃ k, k < p.length ∧ rest = p.drop (k + 1) := by
  induction p generalizing i acc with
  | nil => simp [decA] at h
  | cons c p ih =>
    simp only [decA] at h
    split at h
    · cases h
    · rename_i hi
      split at h
      · rename_i hc
        injection h with h
        injection h with h1 h2
        subst h1
        refine ⟨?_, 0, by simp, by simp [h2]⟩
        by_cases h8 : i = 8
        · subst h8
          have : c * 128 ^ 8 ≤ 63 * 128 ^ 8 := Nat.mul_le_mul_right _ (by omega)
          omega
        · have hle : 128 ^ (i + 1) ≤ 128 ^ 8 := Nat.pow_le_pow_right (by omega) (by omega)
          have : c * 128 ^ i ≤ 127 * 128 ^ i := Nat.mul_le_mul_right _ (by omega)
          rw [Nat.pow_succ] at hle
          omega
      · rename_i hc
        have hm : c % 128 * 128 ^ i ≤ 127 * 128 ^ i := Nat.mul_le_mul_right _ (by omega)
        obtain ⟨h1, k, hk, hr⟩ := ih (i + 1) (acc + c % 128 * 128 ^ i) (fun d hd => hp d (List.mem_cons_of_mem _ hd)) (by rw [Nat.pow_succ]; omega) h
        exact ⟨h1, k + 1, by simp; omega, by simp [hr]⟩

theorem dec_bd {p : List Nat} {n : Nat} {rest : List Nat} (hp : ∀ c ∈ p, c < 256) (h : dec p = some (n, rest)) :
    n < 4611686018427387904 ∧ ∃ k, k < p.length ∧ rest = p.drop (k + 1) := by
  have := decA_bd p 0 0 n rest hp (by simp) h
  simpa using this

end Go.Proofs.Ytnkkpdpjkfjmnaa.Pu
