/-
  The contract of gcprog.readvarint: where the bytes begin with a number of at most 62 bits, it gives the number and what follows.
-/
import Derived.Test.YtnkkpdpjkfjmnaaWVarint
namespace Go.Proofs.Ytnkkpdpjkfjmnaa
open Go.RowKit
set_option linter.unusedVariables false

set_option maxHeartbeats 400000 in
theorem readvarint_any (bs : List Nat) (A : Option Addr) (c n : Nat) (rest : List Nat) (B : Nat) (w : World) (hc : bs.length ≤ c) (hcm : c ≤ maxLen) (h8 : ∀ x ∈ bs, x < 256) (hS : Me.Sl w B A (bs.map Me.b8)) (hd : Pu.dec bs = some (n, rest)) :
    Calls Try.prog 36 #[.slice A bs.length c] w fun e w' => (∃ A' c', e = .returned (.tuple #[.int .i64 n, .slice A' rest.length c']) ∧ rest.length ≤ c' ∧ c' ≤ maxLen ∧ Me.Sl w B A' (rest.map Me.b8)) ∧ w = w' := by
  have HD := Lib.hid hd
  clear hd
  go_enter Try.func36, Try.ntmps36
  go_wp2
  go_loop [0, 4, 5] (fun p v nb => ∃ (i acc : Nat) (ps : List Nat) (A' : Option Addr) (c' : Nat), p = .slice A' ps.length c' ∧ v = .int .i64 acc ∧ nb = .int .u64 ((7 * i : Nat) : Int) ∧ ps.length ≤ c' ∧ c' ≤ maxLen ∧ (∀ x ∈ ps, x < 256) ∧ Me.Sl w B A' (ps.map Me.b8) ∧ i ≤ 9 ∧ acc < 128 ^ i ∧ Hid (Pu.decA i acc ps = some (n, rest)))
    (fun p _ _ => Me.lenOf p)
  case atStart => exact ⟨0, 0, bs, A, c, rfl, rfl, rfl, hc, hcm, h8, hS, by omega, by omega, HD⟩
  case round =>
    obtain ⟨i, acc, ps, A', c', rfl, rfl, rfl, hc', hcm', h8', hS', hi, hacc, HE⟩ := hrel
    rcases ps with _ | ⟨x, ps⟩
    · exact absurd HE.out (by simp [Pu.decA])
    · obtain ⟨b, off, rfl, hb, hcell⟩ := hS'.head
      have hx : x < 256 := h8' x (by simp)
      unfold Me.b8 at hcell
      unfold maxLen at hcm'
      simp only [List.length_cons] at hc' ⊢
      have hT := hS'.tail (by simpa using hc')
      have hE := HE.out
      simp only [Pu.decA] at hE
      have hi8 : ¬ (8 < i ∨ (i = 8 ∧ 63 < x)) := fun h => by rw [if_pos h] at hE; cases hE
      rw [if_neg hi8] at hE
      have hlo := Bi.low7 x hx
      have hhi := Bi.high1 x hx
      have HT := Lib.hid hT
      have HL := Lib.hid hlo
      have HH := Lib.hid hhi
      have HE1 := Lib.hid hE
      clear hT hlo hhi hE hS'
      by_cases hlt : x < 128
      · have hz : (bits BinOp.and IntKind.u8 (x : Int) 128 == 0) = true := by rw [HH.out, if_pos hlt]; rfl
        go_wp2
        all_goals
          go_ret2
          have hE := HE1.out
          rw [if_pos hlt] at hE
          injection hE with hE
          injection hE with e1 e2
          subst e1 e2
          have hT := HT.out
          first | rw [if_pos ‹c' = 1›] at hT | rw [if_neg ‹¬ c' = 1›] at hT
          exact ⟨⟨_, _, ret_two (int_eq (by rw [Bi.read_step i acc x (by omega) hacc _ HL.out, Nat.mod_eq_of_lt hlt])) rfl, by omega, by unfold maxLen; omega, hT⟩, rfl⟩
      · have hz : (bits BinOp.and IntKind.u8 (x : Int) 128 == 0) = false := by rw [HH.out, if_neg hlt]; rfl
        go_wp2
        go_round
        case rel =>
          have hE := HE1.out
          rw [if_neg hlt] at hE
          refine ⟨i + 1, _, ps, _, _, rfl, ?_, by go_num, by omega, by unfold maxLen; omega, fun y hy => h8' y (List.mem_cons_of_mem _ hy), HT.out, by omega, Bi.acc_lt x hacc, hE⟩
          rw [Bi.read_step i acc x (by omega) hacc _ HL.out]
        case measure => simp [Me.lenOf]
end Go.Proofs.Ytnkkpdpjkfjmnaa
