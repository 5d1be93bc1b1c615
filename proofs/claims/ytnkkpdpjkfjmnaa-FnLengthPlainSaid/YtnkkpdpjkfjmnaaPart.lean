/-
  Plain parts: a sequence of bits in parts, adding a part, repeating, reading a program. No program text here.
-/
import Derived.Test.YtnkkpdpjkfjmnaaNum
namespace Go.Proofs.Ytnkkpdpjkfjmnaa.Pu

/-- a part: where it begins, how long it is, its bits (if they are given), how far back it looks (if it repeats) -/
structure Part where
  start : Nat
  long : Nat
  list : Option (List Bool)
  back : Nat

/-- a sequence of bits -/
structure Bs where
  parts : List Part
  long : Nat

def Bs.empty : Bs := ⟨[], 0⟩

def add (b : Bs) (n : Nat) (l : Option (List Bool)) (back : Nat) : Option Bs :=
  if 1152921504606846976 < b.long + n then none
  else if 0 < n then some ⟨b.parts ++ [⟨b.long, n, l, back⟩], b.long + n⟩
  else some b

def againBad (b : Bs) (n c : Int) : Bool := decide (n < 1) || decide ((b.long : Int) < n) || decide (c < 0) || decide (1152921504606846976 / n < c)

def again (b : Bs) (n c : Int) : Option Bs :=
  if againBad b n c = true then none else add b (n * c).toNat none n.toNat

theorem add_bd {b b' : Bs} {n back : Nat} {l : Option (List Bool)} (h : add b n l back = some b') : (b.long ≤ 1152921504606846976 → b'.long ≤ 1152921504606846976) ∧ b'.parts.length ≤ b.parts.length + 1 := by
  unfold add at h
  split at h
  · cases h
  · split at h
    · injection h with h
      subst h
      exact ⟨fun _ => by simp only; omega, by simp⟩
    · injection h with h
      subst h
      exact ⟨fun h => h, by omega⟩

theorem again_bd {b b' : Bs} {n c : Int} (h : again b n c = some b') : (b.long ≤ 1152921504606846976 → b'.long ≤ 1152921504606846976) ∧ b'.parts.length ≤ b.parts.length + 1 := by
  unfold again at h
  split at h
  · cases h
  · exact add_bd h

/-- the bit i of some bytes, the lowest of a byte first -/
def bitAt (p : List Nat) (i : Nat) : Bool := p.getD (i / 8) 0 / 2 ^ (i % 8) % 2 == 1
def litBits (n : Nat) (p : List Nat) : List Bool := (List.range n).map (bitAt p)

theorem litBits_succ (n : Nat) (p : List Nat) : litBits (n + 1) p = litBits n p ++ [bitAt p n] := by simp [litBits, List.range_succ]
theorem litBits_length (n : Nat) (p : List Nat) : (litBits n p).length = n := by simp [litBits]
theorem bitAt_of {p : List Nat} {i y : Nat} (h : p[i / 8]? = some y) : bitAt p i = (y / 2 ^ (i % 8) % 2 == 1) := by simp [bitAt, List.getD, h]

def hdr (c : Nat) (q : List Nat) : Option (Nat × List Nat) := if c = 128 then dec q else some (c - 128, q)

/-- one code, its first byte c, what follows q -/
def step (b : Bs) (c : Nat) (q : List Nat) : Option (Bs × List Nat) :=
  if c < 128 then
    if q.length < (c + 7) / 8 then none
    else (add b c (some (litBits c q)) 0).map fun b' => (b', q.drop ((c + 7) / 8))
  else (hdr c q).bind fun x => (dec x.2).bind fun y => (again b x.1 y.1).map fun b' => (b', y.2)

theorem decA_len (p : List Nat) (i acc n : Nat) (rest : List Nat) (h : decA i acc p = some (n, rest)) : ∃ k, k < p.length ∧ rest = p.drop (k + 1) := by
  induction p generalizing i acc with
  | nil => simp [decA] at h
  | cons c p ih =>
    simp only [decA] at h
    split at h
    · cases h
    · split at h
      · injection h with h
        injection h with h1 h2
        exact ⟨0, by simp, by simp [h2]⟩
      · obtain ⟨k, hk, hr⟩ := ih _ _ h
        exact ⟨k + 1, by simp; omega, by simp [hr]⟩

theorem dec_len {p : List Nat} {n : Nat} {rest : List Nat} (h : dec p = some (n, rest)) : rest.length ≤ p.length := by
  obtain ⟨k, hk, rfl⟩ := decA_len p 0 0 n rest h
  simp

theorem dec_mem {p : List Nat} {y : Nat × List Nat} (h : dec p = some y) : ∀ z ∈ y.2, z ∈ p := by
  obtain ⟨k, hk, hr⟩ := decA_len p 0 0 y.1 y.2 h
  intro z hz
  rw [hr] at hz
  exact List.mem_of_mem_drop hz

theorem hdr_len {c : Nat} {p : List Nat} {n : Nat} {rest : List Nat} (h : hdr c p = some (n, rest)) : rest.length ≤ p.length := by
  unfold hdr at h
  split at h
  · exact dec_len h
  · injection h with h
    injection h with h1 h2
    rw [h2]; exact Nat.le_refl _

theorem step_len {b b' : Bs} {c : Nat} {q q' : List Nat} (h : step b c q = some (b', q')) : q'.length ≤ q.length := by
  unfold step at h
  split at h
  · split at h
    · cases h
    · cases ha : add b c (some (litBits c q)) 0 with
      | none => rw [ha] at h; cases h
      | some b1 =>
        rw [ha] at h
        simp only [Option.map_some, Option.some.injEq, Prod.mk.injEq] at h
        rw [← h.2]; simp
  · cases hh : hdr c q with
    | none => rw [hh] at h; cases h
    | some x =>
      rw [hh] at h
      simp only [Option.bind_some] at h
      cases hd : dec x.2 with
      | none => rw [hd] at h; cases h
      | some y =>
        rw [hd] at h
        simp only [Option.bind_some] at h
        have h1 := hdr_len (n := x.1) (rest := x.2) hh
        have h2 := dec_len (n := y.1) (rest := y.2) hd
        cases ha : again b x.1 y.1 with
        | none => rw [ha] at h; cases h
        | some b1 =>
          rw [ha] at h
          simp only [Option.map_some, Option.some.injEq, Prod.mk.injEq] at h
          rw [← h.2]; omega

/-- what a program says -/
def rd (b : Bs) (p : List Nat) : Option Bs :=
  match p with
  | [] => none
  | c :: q =>
    if c = 0 then (if q = [] then some b else none)
    else match step b c q with
      | none => none
      | some x => if _h : x.2.length ≤ q.length then rd x.1 x.2 else none
termination_by p.length
decreasing_by simp; omega

theorem rd_nil (b : Bs) : rd b [] = none := by rw [rd]
theorem rd_zero (b : Bs) (q : List Nat) : rd b (0 :: q) = if q = [] then some b else none := by rw [rd]; simp
theorem rd_none {b : Bs} {c : Nat} {q : List Nat} (hc : c ≠ 0) (h : step b c q = none) : rd b (c :: q) = none := by
  rw [rd]; simp only [if_neg hc, h]
theorem rd_some {b b' : Bs} {c : Nat} {q q' : List Nat} (hc : c ≠ 0) (h : step b c q = some (b', q')) : rd b (c :: q) = rd b' q' := by
  have hl := step_len h
  rw [rd]; simp only [if_neg hc, h]
  rw [dif_pos hl]


theorem add_long {b b' : Bs} {n back : Nat} {l : Option (List Bool)} (h : add b n l back = some b') : b'.long = b.long + n ∧ b.long + n ≤ 1152921504606846976 := by
  unfold add at h
  split at h
  · cases h
  · split at h
    · injection h with h
      subst h
      exact ⟨rfl, by omega⟩
    · injection h with h
      subst h
      exact ⟨by omega, by omega⟩

theorem again_long {b b' : Bs} {n c : Nat} (h : again b n c = some b') : b'.long = b.long + n * c ∧ b.long + n * c ≤ 1152921504606846976 := by
  unfold again at h
  split at h
  · cases h
  · have e : ((n : Int) * (c : Int)).toNat = n * c := by rw [← Int.natCast_mul]; exact Int.toNat_natCast _
    rw [e] at h
    exact add_long h

theorem step_lit {b : Bs} {x : Nat} {q : List Nat} {y : Bs × List Nat} (hx : x < 128) (h : step b x q = some y) :
    (x + 7) / 8 ≤ q.length ∧ y.2 = q.drop ((x + 7) / 8) ∧ y.1.long = b.long + x ∧ b.long + x ≤ 1152921504606846976 := by
  unfold step at h
  rw [if_pos hx] at h
  split at h
  · cases h
  · cases ha : add b x (some (litBits x q)) 0 with
    | none => rw [ha] at h; cases h
    | some b1 =>
      rw [ha] at h
      simp only [Option.map_some, Option.some.injEq] at h
      subst h
      have := add_long ha
      exact ⟨by omega, rfl, this.1, this.2⟩

theorem step_rep {b : Bs} {x : Nat} {q : List Nat} {y : Bs × List Nat} (hx : ¬ x < 128) (h : step b x q = some y) :
    ∃ n q1 k, hdr x q = some (n, q1) ∧ dec q1 = some (k, y.2) ∧ again b n k = some y.1 := by
  unfold step at h
  rw [if_neg hx] at h
  cases hh : hdr x q with
  | none => rw [hh] at h; cases h
  | some z =>
    rw [hh] at h
    simp only [Option.bind_some] at h
    cases hd : dec z.2 with
    | none => rw [hd] at h; cases h
    | some u =>
      rw [hd] at h
      simp only [Option.bind_some] at h
      cases ha : again b z.1 u.1 with
      | none => rw [ha] at h; cases h
      | some b1 =>
        rw [ha] at h
        simp only [Option.map_some, Option.some.injEq] at h
        subst h
        exact ⟨z.1, z.2, u.1, rfl, hd, ha⟩

end Go.Proofs.Ytnkkpdpjkfjmnaa.Pu
