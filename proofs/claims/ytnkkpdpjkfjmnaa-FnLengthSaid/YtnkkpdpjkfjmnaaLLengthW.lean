/-
  The walk of the law FnLength.
-/
import Derived.Test.YtnkkpdpjkfjmnaaLLengthAnyW
import Derived.Test.YtnkkpdpjkfjmnaaWSame
import Derived.Test.YtnkkpdpjkfjmnaaOpen
import Derived.Deep.RegionWith
import Derived.BigRegion
namespace Go.Proofs.Ytnkkpdpjkfjmnaa.fnLength
open Go.RowKit
set_option linter.unusedVariables false

set_option maxHeartbeats 2000000 in
theorem walk (a0 : Option Addr) (len0 cap0 : Nat) (z0 : List Pu.Op) (w : World) (w0 : IsOps w a0 len0 cap0 z0) :
    Calls Try.prog 15 #[.slice a0 len0 cap0] w fun e w' => e = .returned (.bool true) ∧ Below w.heap.size w w' := by
  obtain ⟨hll, hl, hm, hf, hS⟩ := w0
  subst hll
  unfold maxLen at hm
  by_cases hbig : 2147483647 < z0.length
  · go_enter Try.func15, Try.ntmps15
    go_wp2
    go_ret
    exact ⟨rfl, Below.refl _ _⟩
  · go_enter Try.func15, Try.ntmps15
    go_wp2_with fail
    refine (of_any a0 cap0 z0 w hl (by unfold maxLen; omega) (by omega) hf hS).mono ?_
    rintro e w1 ⟨hb1, hm1⟩
    cases hr : Pu.ofL .empty z0 with
    | none =>
      rw [hr] at hm1
      obtain ⟨PA, n, PC, L, rfl⟩ := hm1
      clear hr
      go_wp2
      go_quiet (fail)
      go_wp2
      go_ret
      exact ⟨rfl, Me.below_drewN (hb1.alloc hb1.size _) _⟩
    | some s =>
      rw [hr] at hm1
      obtain ⟨PA, PC, rfl, hpv, hlong⟩ := hm1
      obtain ⟨b, hrd, hsame⟩ := Pu.prog_says hr
      have HR := Lib.hid hr
      have HB := Lib.hid hrd
      have HE := Lib.hid hsame.1
      have H8 := Lib.hid (Pu.prog_lt hr)
      clear hr hrd hsame hf
      have hS1 := ((hS.below hb1 (Nat.le_refl _)).alloc hb1.size (Obj.cells #[Value.slice PA s.parts.length PC, Value.int IntKind.i64 ↑s.long] 30)).more (B' := (w1.alloc (Obj.cells #[Value.slice PA s.parts.length PC, Value.int IntKind.i64 ↑s.long] 30)).heap.size) (by have := hb1.size; simp; omega)
      have hK := Me.Blk.new w1 30 #[Value.slice PA s.parts.length PC, Value.int IntKind.i64 ↑s.long]
      have hbel1 : Below w.heap.size w (w1.alloc (Obj.cells #[Value.slice PA s.parts.length PC, Value.int IntKind.i64 ↑s.long] 30)) := hb1.alloc hb1.size _
      go_wp2
      go_region_with (first
        | (go_at_call 25; refine (iprog_any a0 cap0 z0 s _ hl (by unfold maxLen; omega) (by omega) (by exact hS1) HR.out).mono ?_; rintro e w2 ⟨QA, QC, rfl, g1, g2, g3, hb2⟩; have hK2 := Me.Blk.below (by exact hK) hb2 hK.lt; have k1 : w2.cell? ⟨w1.heap.size, 1, none⟩ = some (.int .i64 (s.long : Int)) := hK2.cell 1; have hB := Me.Blk.new w2 5 #[.int .u8 1, .int .u8 1, .int .u8 0])
        | (go_at_call_of 21 (Value.slice QA (Pu.prog z0).length QC); refine (length_any (Pu.prog z0) QA QC _ b w2.heap.size _ rfl g1 g2 H8.out (by exact g3) HB.out).mono ?_; rintro e w' ⟨he, rfl⟩; rw [HE.out] at he; subst he)
        | (go_at_call 21; refine (length_110 _ _ (by exact hB)).mono ?_; rintro e w' ⟨rfl, rfl⟩))
      all_goals
        go_wp2
        go_ret
        refine ⟨rfl, ?_⟩
        have hb3 : Below (w1.heap.size + 1) (w1.alloc (Obj.cells #[Value.slice PA s.parts.length PC, Value.int IntKind.i64 ↑s.long] 30)) w2 := by
          have hz := hb2.mono (B' := w1.heap.size + 1) (by simp)
          exact ⟨hz.os, hz.tape, hz.output, hz.size, hz.block⟩
        have hb4 := hbel1.trans (hb3.mono (by have := hb1.size; omega))
        repeat (first | exact hb4 | refine Below.drew ?_ | refine Below.alloc ?_ (by have := hb4.size; simp; omega) _)
end Go.Proofs.Ytnkkpdpjkfjmnaa.fnLength
