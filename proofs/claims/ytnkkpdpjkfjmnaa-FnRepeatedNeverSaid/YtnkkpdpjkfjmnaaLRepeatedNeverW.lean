/-
  The walk of the law FnRepeatedNever.
-/
import Derived.Test.YtnkkpdpjkfjmnaaPlain
namespace Go.Proofs.Ytnkkpdpjkfjmnaa.fnRepeatedNever
open Go.RowKit
set_option linter.unusedVariables false

set_option maxRecDepth 100000 in
set_option maxHeartbeats 4000000 in
theorem walk (a0 : Option Addr) (len0 cap0 : Nat) (z0 : List Pu.Op) (a1 : Int) (w : World) (w0 : IsOps w a0 len0 cap0 z0) (w1' : (Lit.int .i64 a1).wf = true) :
    Calls Try.prog 11 #[.slice a0 len0 cap0, .int .i64 a1] w fun e w' => e = .returned (.bool true) ∧ Below w.heap.size w w' := by
  obtain ⟨hll, hl, hm, hf, hS⟩ := w0
  obtain ⟨ha1, ha2⟩ := Me.wf_i64 w1'
  subst hll
  unfold maxLen at hm
  clear w1'
  by_cases hbig : 2147483647 < z0.length
  · go_enter Try.func11, Try.ntmps11
    go_wp2
    go_ret
    exact ⟨rfl, Below.refl _ _⟩
  · go_enter Try.func11, Try.ntmps11
    go_wp2_with fail
    refine (of_any a0 cap0 z0 w hl (by unfold maxLen; omega) (by omega) hf hS).mono ?_
    rintro e w1 ⟨hb1, hm1⟩
    cases hr : Pu.ofL .empty z0 with
    | none =>
      rw [hr] at hm1
      obtain ⟨PA, n, PC, L, rfl⟩ := hm1
      clear hr
      go_wp2_with fail
      go_ret
      exact ⟨rfl, balloc hb1 _⟩
    | some s =>
      rw [hr] at hm1
      obtain ⟨PA, PC, rfl, hpv, hlong⟩ := hm1
      have HR := Lib.hid hr
      clear hf
      have hb2 := balloc hb1 (Obj.cells #[Value.slice PA s.parts.length PC, Value.int IntKind.i64 ↑s.long] 30)
      by_cases h0 : s.long = 0
      · have h0' : ((s.long : Int) == 0) = true := by simp [h0]
        clear hr
        go_wp2_with fail
        go_ret
        exact ⟨rfl, balloc hb1 _⟩
      have h0' : ((s.long : Int) == 0) = false := by simp [h0]
      by_cases hL : 1048576 < s.long
      · clear hr
        go_wp2_with fail
        go_ret
        exact ⟨rfl, hb2⟩
      have hpl := Pu.plcN_lt a1 s.long (by omega)
      obtain ⟨m, hm'⟩ : ∃ m, Pu.plcN a1 s.long = m := ⟨_, rfl⟩
      rw [hm'] at hpl
      have HM := Lib.hid hm'
      have hms : m < s.long := by omega
      have hof := Pu.repeat_never hr (1 + m) (by omega) (by omega)
      rw [show ((1 + m : Nat) : Int) = 1 + (m : Int) by omega] at hof
      have hlen : (z0 ++ [(⟨2, 1 + (m : Int), 0⟩ : Pu.Op)]).length < 8589934592 := by simp; omega
      have HO := Lib.hid hof
      clear hr hm' hof hpv
      go_wp2_with (go_at_call 17; refine (place_nat a1 s.long _ ha1 ha2 (by omega) (by omega)).mono ?_; rintro e w' ⟨he, rfl⟩; rw [HM.out] at he; subst he)
      have hb3 := balloc hb2 (Obj.cells #[Value.int IntKind.i64 2, Value.int IntKind.i64 (1 + ↑m), Value.int IntKind.i64 0] 45)
      refine (with_any a0 (some ⟨w1.heap.size + 1, 0, none⟩) z0.length cap0 1 1 z0 [⟨2, 1 + (m : Int), 0⟩] _ rfl rfl (by omega) (by omega) (slAt hS hb3) ?sl).mono ?_
      case sl =>
        have h := Me.Sl.new (w1.alloc (Obj.cells #[Value.slice PA s.parts.length PC, Value.int IntKind.i64 ↑s.long] 30)) 45 #[Value.int IntKind.i64 2, Value.int IntKind.i64 (1 + ↑m), Value.int IntKind.i64 0] _ rfl (w1.heap.size + 1 + 1) (by simp)
        rw [World.size_alloc] at h
        rw [World.size_alloc, World.size_alloc]
        exact h
      rintro e w3 ⟨RA, RC, rfl, g1, g2, g3, hb4⟩
      generalize z0 ++ [(⟨2, 1 + (m : Int), 0⟩ : Pu.Op)] = lm at HO hlen g1 g3 ⊢
      have hb5 := bstep hb3 hb4
      go_wp2_with fail
      refine (readlaw_any RA RC lm s w3 g1 g2 hlen g3 HO.out).mono ?_
      rintro e w4 ⟨hb6, b, QA, QC, rfl, hpb, hwb, hsm, hlb⟩
      have HW1 := Lib.hid hwb
      have HS1 := Lib.hid hsm
      have hb7 := balloc (bstep hb5 hb6) (Obj.cells #[Value.slice QA b.parts.length QC, Value.int IntKind.i64 ↑b.long] 30)
      clear hwb hsm
      go_wp2_with fail
      refine (readlaw_any a0 cap0 z0 s _ hl (by unfold maxLen; omega) (by omega) (slAt hS hb7) HR.out).mono ?_
      rintro e w5 ⟨hb8, c, TA, TC, rfl, hpc, hwc, hsm2, hlc⟩
      have HW2 := Lib.hid hwc
      have HS2 := Lib.hid hsm2
      have hK := (Me.Blk.new w4 30 #[Value.slice QA b.parts.length QC, Value.int IntKind.i64 ↑b.long]).below hb8 (by simp)
      have k0 : w5.cell? ⟨w4.heap.size, 0, none⟩ = some (.slice QA b.parts.length QC) := hK.cell 0
      have k1 : w5.cell? ⟨w4.heap.size, 1, none⟩ = some (.int .i64 (b.long : Int)) := hK.cell 1
      have hlt : w4.heap.size < w5.heap.size := hK.lt
      have hp1 := ((hpb.below (bnew w4 (Obj.cells #[Value.slice QA b.parts.length QC, Value.int IntKind.i64 ↑b.long] 30))).below hb8).below (bnew w5 (Obj.cells #[Value.slice TA c.parts.length TC, Value.int IntKind.i64 ↑c.long] 30))
      have hp2 := hpc.below (bnew w5 (Obj.cells #[Value.slice TA c.parts.length TC, Value.int IntKind.i64 ↑c.long] 30))
      clear hwc hsm2 hK
      go_wp2_with fail
      refine (same_any b c QA TA QC TC _ _ _ hp1 hp2 HW1.out HW2.out hlb hlc (HS1.out.trans HS2.out.symm)).mono ?_
      rintro e w6 ⟨rfl, hb9⟩
      go_wp2
      go_ret
      exact ⟨rfl, bstep (balloc (bstep hb7 hb8) _) hb9⟩
end Go.Proofs.Ytnkkpdpjkfjmnaa.fnRepeatedNever
