/-
  The walk of the law FnLengthAny.
-/
import Derived.Test.YtnkkpdpjkfjmnaaWRead
import Derived.Test.YtnkkpdpjkfjmnaaWLen
import Derived.Deep.RegionWith
import Derived.BigRegion
namespace Go.Proofs.Ytnkkpdpjkfjmnaa
open Go.RowKit
open Go.Proofs.Ytnkkpdpjkfjmnaa.Me (IsRow)
set_option linter.unusedVariables false

theorem rd_110 : ∃ b, Pu.rd .empty [1, 1, 0] = some b ∧ b.long = 1 := by
  have h : Pu.step .empty 1 [1, 0] = some (⟨[⟨0, 1, some (Pu.litBits 1 [1, 0]), 0⟩], 1⟩, [0]) := by
    simp [Pu.step, Pu.add, Pu.Bs.empty]
  exact ⟨⟨[⟨0, 1, some (Pu.litBits 1 [1, 0]), 0⟩], 1⟩, by rw [Pu.rd_some (by omega) h, Pu.rd_zero]; simp, rfl⟩

/-- the length of the program 1, 1, 0, wherever its bytes lie -/
theorem length_110 (g : Nat) (W : World) (hb : Me.Blk W g 5 #[.int .u8 1, .int .u8 1, .int .u8 0]) :
    Calls Try.prog 21 #[.slice (some ⟨g, 0, none⟩) 3 3] W fun e w' => e = .returned (.int .i64 1) ∧ W = w' := by
  obtain ⟨b, hb1, hb2⟩ := rd_110
  refine (length_any [1, 1, 0] (some ⟨g, 0, none⟩) 3 3 b (g + 1) W rfl (by omega) (by simp [maxLen]) (by simp) ?_ hb1).mono fun e w' ⟨he, hw⟩ => ⟨?_, hw⟩
  · refine .inr ⟨g, 0, rfl, by omega, fun j u hj => ?_⟩
    rw [Nat.zero_add, hb.cell j]
    rw [← hj]
    match j with
    | 0 => rfl
    | 1 => rfl
    | 2 => rfl
    | j + 3 => simp
  · rw [he, hb2]; rfl

theorem length_110_new (W : World) :
    Calls Try.prog 21 #[.slice (some ⟨W.heap.size, 0, none⟩) 3 3] (W.alloc (.cells #[.int .u8 1, .int .u8 1, .int .u8 0] 5)) fun e w' => e = .returned (.int .i64 1) ∧ W.alloc (.cells #[.int .u8 1, .int .u8 1, .int .u8 0] 5) = w' :=
  length_110 _ _ (Me.Blk.new _ _ _)
theorem length_110_drew (W : World) :
    Calls Try.prog 21 #[.slice (some ⟨W.heap.size, 0, none⟩) 3 3] (W.alloc (.cells #[.int .u8 1, .int .u8 1, .int .u8 0] 5)).drew fun e w' => e = .returned (.int .i64 1) ∧ (W.alloc (.cells #[.int .u8 1, .int .u8 1, .int .u8 0] 5)).drew = w' :=
  length_110 _ _ (Me.Blk.new W _ _)

namespace fnLengthAny
set_option maxHeartbeats 1000000 in
theorem walk (a0 : Option Addr) (len0 cap0 : Nat) (z0 : List Int) (w : World) (w0 : IsRow .u8 w a0 len0 cap0 z0) :
    Calls Try.prog 4 #[.slice a0 len0 cap0] w fun e w' => e = .returned (.bool true) ∧ Below w.heap.size w w' := by
  obtain ⟨hl, hm⟩ := w0.le
  obtain ⟨bs, hbl, hS, h8⟩ := w0.bytes
  subst hbl
  clear w0
  unfold maxLen at hm
  by_cases hbig : 2147483647 < bs.length
  · go_enter Try.func4, Try.ntmps4
    go_wp2
    go_ret
    exact ⟨rfl, Below.refl _ _⟩
  · go_enter Try.func4, Try.ntmps4
    go_wp2_with fail
    refine (read_any bs a0 cap0 w hl (by unfold maxLen; omega) (by omega) h8 hS).mono ?_
    rintro e w1 ⟨hb1, hm1⟩
    cases hr : Pu.rd .empty bs with
    | none =>
      rw [hr] at hm1
      obtain ⟨PA, n, PC, L, rfl⟩ := hm1
      clear hr
      go_wp2
      go_quiet (fail)
      go_wp2
      go_ret
      exact ⟨rfl, Me.below_drewN (hb1.alloc hb1.size _) _⟩
    | some b =>
      rw [hr] at hm1
      obtain ⟨PA, PC, rfl, hpv, hlong⟩ := hm1
      have HR := Lib.hid hr
      clear hr
      have hS1 := (hS.below hb1 (Nat.le_refl _)).alloc hb1.size (Obj.cells #[Value.slice PA b.parts.length PC, Value.int IntKind.i64 ↑b.long] 30)
      have hB := Me.Blk.new (w1.alloc (Obj.cells #[Value.slice PA b.parts.length PC, Value.int IntKind.i64 ↑b.long] 30)) 5 #[.int .u8 1, .int .u8 1, .int .u8 0]
      rw [World.size_alloc] at hB
      go_wp2
      go_region_with (first | (go_at_call_of 21 (Value.slice a0 bs.length cap0); refine (length_any bs a0 cap0 _ b w.heap.size _ rfl hl (by unfold maxLen; omega) h8 (by exact hS1) HR.out).mono ?_; rintro e w' ⟨rfl, rfl⟩) | (go_at_call 21; refine (length_110 _ _ (by exact hB)).mono ?_; rintro e w' ⟨rfl, rfl⟩))
      all_goals
        go_wp2
        go_ret
        refine ⟨rfl, ?_⟩
        repeat (first | exact hb1 | refine Below.drew ?_ | refine Below.alloc ?_ (by have := hb1.size; simp; omega) _)
end fnLengthAny
end Go.Proofs.Ytnkkpdpjkfjmnaa
