/-
  The contract of laws.place: the remainder from 0 on.
-/
import Derived.Test.YtnkkpdpjkfjmnaaRows
import Derived.Test.YtnkkpdpjkfjmnaaNum
import Derived.WalkKit
import Derived.OwnWalk
import Derived.Outline
import Derived.Lib.Hide
namespace Go.Proofs.Ytnkkpdpjkfjmnaa
open Go.RowKit
set_option linter.unusedVariables false

theorem ret_int {k : IntKind} {a b : Int} (h : a = b) : Ending.returned (.int k a) = .returned (.int k b) := by rw [h]

theorem ret_two {a b c d : Value} (h : a = c) (h2 : b = d) : Ending.returned (.tuple #[a, b]) = .returned (.tuple #[c, d]) := by rw [h, h2]
theorem ret_three {a b c d e f : Value} (h : a = d) (h2 : b = e) (h3 : c = f) : Ending.returned (.tuple #[a, b, c]) = .returned (.tuple #[d, e, f]) := by rw [h, h2, h3]
theorem int_eq {k : IntKind} {a b : Int} (h : a = b) : Value.int k a = .int k b := by rw [h]

theorem place_any (n k : Int) (w : World) (hn : -9223372036854775808 ≤ n) (hn2 : n ≤ 9223372036854775807) (hk : 1 ≤ k) (hk2 : k ≤ 9223372036854775807) :
    Calls Try.prog 17 #[.int .i64 n, .int .i64 k] w fun e w' => e = .returned (.int .i64 (Pu.plc n k)) ∧ w = w' := by
  obtain ⟨h1, h2⟩ := Pu.tmod_bd n k (by omega)
  have hr : Pu.plc n k = if n.tmod k < 0 then n.tmod k + k else n.tmod k := rfl
  have HR := Lib.hid hr
  clear hr
  have hk0 : (k == 0) = false := by simp; omega
  by_cases hlt : n.tmod k < 0
  · go_enter Try.func17, Try.ntmps17
    go_wp2
    go_ret
    exact ⟨ret_int (by rw [HR.out, if_pos hlt]), rfl⟩
  · go_enter Try.func17, Try.ntmps17
    go_wp2
    go_ret
    exact ⟨ret_int (by rw [HR.out, if_neg (by omega)]), rfl⟩

theorem place_nat (n k : Int) (w : World) (hn : -9223372036854775808 ≤ n) (hn2 : n ≤ 9223372036854775807) (hk : 1 ≤ k) (hk2 : k ≤ 9223372036854775807) :
    Calls Try.prog 17 #[.int .i64 n, .int .i64 k] w fun e w' => e = .returned (.int .i64 ((Pu.plcN n k : Nat) : Int)) ∧ w = w' :=
  (place_any n k w hn hn2 hk hk2).mono fun e w' ⟨he, hw⟩ => ⟨he.trans (ret_int (by have := (Pu.plc_bd n k (by omega)).1; unfold Pu.plcN; omega)), hw⟩
end Go.Proofs.Ytnkkpdpjkfjmnaa
