/-
  The walk of the law FnProgram.
-/
import Derived.Test.YtnkkpdpjkfjmnaaWSame
import Derived.Test.YtnkkpdpjkfjmnaaOpen
namespace Go.Proofs.Ytnkkpdpjkfjmnaa.fnProgram
open Go.RowKit
set_option linter.unusedVariables false

set_option maxHeartbeats 2000000 in
theorem walk (a0 : Option Addr) (len0 cap0 : Nat) (z0 : List Pu.Op) (w : World) (w0 : IsOps w a0 len0 cap0 z0) :
    Calls Try.prog 9 #[.slice a0 len0 cap0] w fun e w' => e = .returned (.bool true) ∧ Below w.heap.size w w' := by
  obtain ⟨hll, hl, hm, hf, hS⟩ := w0
  subst hll
  unfold maxLen at hm
  by_cases hbig : 2147483647 < z0.length
  · go_enter Try.func9, Try.ntmps9
    go_wp2
    go_ret
    exact ⟨rfl, Below.refl _ _⟩
  · go_enter Try.func9, Try.ntmps9
    go_wp2_with fail
    refine (of_any a0 cap0 z0 w hl (by unfold maxLen; omega) (by omega) hf hS).mono ?_
    rintro e w1 ⟨hb1, hm1⟩
    cases hr : Pu.ofL .empty z0 with
    | none =>
      rw [hr] at hm1
      obtain ⟨PA, n, PC, L, rfl⟩ := hm1
      clear hr
      go_wp2_with fail
      go_ret
      exact ⟨rfl, hb1.alloc hb1.size _⟩
    | some s =>
      rw [hr] at hm1
      obtain ⟨PA, PC, rfl, hpv, hlong⟩ := hm1
      have HR := Lib.hid hr
      have HW := Lib.hid (Pu.ofL_wf Pu.wf_empty hr)
      clear hr hf
      have hbel1 : Below w.heap.size w (w1.alloc (Obj.cells #[Value.slice PA s.parts.length PC, Value.int IntKind.i64 ↑s.long] 30)) := hb1.alloc hb1.size _
      by_cases hL : 1048576 < s.long
      · go_wp2_with fail
        go_ret
        exact ⟨rfl, hbel1⟩
      · have hS1 := ((hS.below hb1 (Nat.le_refl _)).alloc hb1.size (Obj.cells #[Value.slice PA s.parts.length PC, Value.int IntKind.i64 ↑s.long] 30)).more (B' := (w1.alloc (Obj.cells #[Value.slice PA s.parts.length PC, Value.int IntKind.i64 ↑s.long] 30)).heap.size) (by have := hb1.size; simp; omega)
        have hK := Me.Blk.new w1 30 #[Value.slice PA s.parts.length PC, Value.int IntKind.i64 ↑s.long]
        have hp1 := hpv.below ((Below.refl _ _).alloc (Nat.le_refl _) (Obj.cells #[Value.slice PA s.parts.length PC, Value.int IntKind.i64 ↑s.long] 30))
        go_wp2_with fail
        refine (readlaw_any a0 cap0 z0 s _ hl (by unfold maxLen; omega) (by omega) hS1 HR.out).mono ?_
        rintro e w2 ⟨hb2, b, QA, QC, rfl, hpb, hwb, hsm, hlb⟩
        have HWB := Lib.hid hwb
        have HS := Lib.hid hsm
        have hK2 := hK.below hb2 hK.lt
        have k0 : w2.cell? ⟨w1.heap.size, 0, none⟩ = some (.slice PA s.parts.length PC) := hK2.cell 0
        have k1 : w2.cell? ⟨w1.heap.size, 1, none⟩ = some (.int .i64 (s.long : Int)) := hK2.cell 1
        have hlt : w1.heap.size < w2.heap.size := hK2.lt
        have hp2 := (hp1.below hb2).below ((Below.refl _ _).alloc (Nat.le_refl _) (Obj.cells #[Value.slice QA b.parts.length QC, Value.int IntKind.i64 ↑b.long] 30))
        have hpb2 := hpb.below ((Below.refl _ _).alloc (Nat.le_refl _) (Obj.cells #[Value.slice QA b.parts.length QC, Value.int IntKind.i64 ↑b.long] 30))
        clear hwb hsm hK2 hK
        go_wp2_with fail
        refine (same_any b s QA PA QC PC _ _ _ hpb2 hp2 HWB.out HW.out hlb hlong HS.out).mono ?_
        rintro e w3 ⟨rfl, hb3⟩
        go_wp2
        go_ret
        refine ⟨rfl, ?_⟩
        have hb4 := hbel1.trans (hb2.mono (by have := hb1.size; simp; omega))
        exact (hb4.alloc hb4.size _).trans (hb3.mono (by have := hb4.size; simp; omega))
end Go.Proofs.Ytnkkpdpjkfjmnaa.fnProgram
