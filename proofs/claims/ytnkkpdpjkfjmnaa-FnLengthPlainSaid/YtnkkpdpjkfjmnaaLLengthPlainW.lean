/-
  The walk of the law FnLengthPlain.
-/
import Derived.Test.YtnkkpdpjkfjmnaaWPlain
import Derived.Test.YtnkkpdpjkfjmnaaWLen
namespace Go.Proofs.Ytnkkpdpjkfjmnaa.fnLengthPlain
open Go.RowKit
set_option linter.unusedVariables false

set_option maxRecDepth 100000 in
set_option maxHeartbeats 4000000 in
theorem walk (a0 : Option Addr) (len0 cap0 : Nat) (z0 : List Pu.Op) (w : World) (w0 : IsOps w a0 len0 cap0 z0) :
    Calls Try.prog 16 #[.slice a0 len0 cap0] w fun e w' => e = .returned (.bool true) ∧ Below w.heap.size w w' := by
  obtain ⟨hll, hl, hm, hf, hS⟩ := w0
  subst hll
  unfold maxLen at hm
  by_cases hbig : 2147483647 < z0.length
  · go_enter Try.func16, Try.ntmps16
    go_wp2
    go_ret
    exact ⟨rfl, Below.refl _ _⟩
  · go_enter Try.func16, Try.ntmps16
    go_wp2_with fail
    refine (of_any a0 cap0 z0 w hl (by unfold maxLen; omega) (by omega) hf hS).mono ?_
    rintro e w1 ⟨hb1, hm1⟩
    cases hr : Pu.ofL .empty z0 with
    | none =>
      rw [hr] at hm1
      obtain ⟨PA, n, PC, L, rfl⟩ := hm1
      clear hr
      go_wp2_with fail
      go_ret
      exact ⟨rfl, balloc hb1 _⟩
    | some s =>
      rw [hr] at hm1
      obtain ⟨PA, PC, rfl, hpv, hlong⟩ := hm1
      have HR := Lib.hid hr
      have HF := Lib.hid hf
      obtain ⟨pb, hrd, hsame⟩ := Pu.prog_says hr
      have HB3 := Lib.hid hrd
      have HE3 := Lib.hid hsame.1
      have H83 := Lib.hid (Pu.prog_lt hr)
      clear hr hf hrd hsame hpv
      have hb2 := balloc hb1 (Obj.cells #[Value.slice PA s.parts.length PC, Value.int IntKind.i64 ↑s.long] 30)
      by_cases hL : 1048576 < s.long
      · go_wp2_with fail
        go_ret
        exact ⟨rfl, hb2⟩
      · go_wp2_with fail
        refine (plain_any a0 cap0 z0 s _ hl (by unfold maxLen; omega) (by omega) HF.out (slAt hS hb2) HR.out).mono ?_
        rintro e w2 ⟨out, b, RA, RC, rfl, hrds, h8, hol, g1, g2, g3, hb3⟩
        have hbs : Pu.rd .empty (out ++ [0]) = some b := Pu.rds_end hrds
        have hsm : Pu.Same b s := hrds.same
        have h8' : ∀ x ∈ out ++ [0], x < 256 := fun x hx => (List.mem_append.1 hx).elim (h8 x) (fun h => by simp at h; omega)
        have hol' : (out ++ [0]).length ≤ 34 * z0.length + 1 := by simp; omega
        generalize out ++ [0] = bs at hbs h8' hol' g1 g3 ⊢
        have HBS := Lib.hid hbs
        have HSM := Lib.hid hsm
        have H8 := Lib.hid h8'
        have HWB := Lib.hid (Pu.rd_wf Pu.wf_empty hbs)
        clear hbs hsm h8 h8' hrds hol
        have hb4 := bstep hb2 hb3
        clear hb3
        go_wp2_with fail
        refine (read_any bs RA RC w2 g1 g2 (by omega) H8.out g3).mono ?_
        rintro e w3 ⟨hb5, hm3⟩
        rw [HBS.out] at hm3
        obtain ⟨QA, QC, rfl, hpb, hlb⟩ := hm3
        have hb6 := balloc (bstep hb4 hb5) (Obj.cells #[Value.slice QA b.parts.length QC, Value.int IntKind.i64 ↑b.long] 30)
        have hS5 := ((g3.below hb5 (Nat.le_refl _)).more hb5.size).below (bnew w3 (Obj.cells #[Value.slice QA b.parts.length QC, Value.int IntKind.i64 ↑b.long] 30)) (Nat.le_refl _)
        have hK6 := Me.Blk.new w3 30 #[Value.slice QA b.parts.length QC, Value.int IntKind.i64 ↑b.long]
        have hpb6 := hpb.below (bnew w3 (Obj.cells #[Value.slice QA b.parts.length QC, Value.int IntKind.i64 ↑b.long] 30))
        clear hb5 hpb
        go_wp2_with fail
        refine (readlaw_any a0 cap0 z0 s _ hl (by unfold maxLen; omega) (by omega) (slAt hS hb6) HR.out).mono ?_
        rintro e w4 ⟨hb7, c, TA, TC, rfl, hpc, hwc, hsm2, hlc⟩
        have HWC := Lib.hid hwc
        have HSM2 := Lib.hid hsm2
        have hb8 := balloc (bstep hb6 hb7) (Obj.cells #[Value.slice TA c.parts.length TC, Value.int IntKind.i64 ↑c.long] 30)
        have hS8 := (hS5.below hb7 (by simp)).below (bnew w4 (Obj.cells #[Value.slice TA c.parts.length TC, Value.int IntKind.i64 ↑c.long] 30)) (by have := hb7.size; simp at this; omega)
        have hK63 := hK6.below hb7 hK6.lt
        have hK64 := hK63.alloc (Obj.cells #[Value.slice TA c.parts.length TC, Value.int IntKind.i64 ↑c.long] 30)
        have hK84 := Me.Blk.new w4 30 #[Value.slice TA c.parts.length TC, Value.int IntKind.i64 ↑c.long]
        have hpb8 := (hpb6.below hb7).below (bnew w4 (Obj.cells #[Value.slice TA c.parts.length TC, Value.int IntKind.i64 ↑c.long] 30))
        have hpc8 := hpc.below (bnew w4 (Obj.cells #[Value.slice TA c.parts.length TC, Value.int IntKind.i64 ↑c.long] 30))
        have k0 : w4.cell? ⟨w3.heap.size, 0, none⟩ = some (.slice QA b.parts.length QC) := hK63.cell 0
        have k1 : w4.cell? ⟨w3.heap.size, 1, none⟩ = some (.int .i64 (b.long : Int)) := hK63.cell 1
        have hlt : w3.heap.size < w4.heap.size := hK63.lt
        clear hwc hsm2 hb7 hpc hK6 hpb6 hS5 hb6 hb4 g3 hK63
        go_wp2_with fail
        refine (same_any b c QA TA QC TC _ _ _ hpb8 hpc8 HWB.out HWC.out hlb hlc (HSM.out.trans HSM2.out.symm)).mono ?_
        rintro e w5 ⟨rfl, hb9⟩
        have hb10 := bstep hb8 hb9
        have hS9 := (hS8.more (B' := (w4.alloc (Obj.cells #[Value.slice TA c.parts.length TC, Value.int IntKind.i64 ↑c.long] 30)).heap.size) (by simp; omega)).below hb9 (Nat.le_refl _)
        clear hb8 hb9 hS8 hpb8 hpc8 k0 k1 hlt
        go_wp2_with fail
        refine (length_any bs RA RC _ b _ _ rfl g1 g2 H8.out hS9 HBS.out).mono ?_
        rintro e w6 ⟨rfl, rfl⟩
        go_wp2_with fail
        refine (iprog_any a0 cap0 z0 s _ hl (by unfold maxLen; omega) (by omega) (slAt hS hb10) HR.out).mono ?_
        rintro e w6 ⟨UA, UC, rfl, t1, t2, t3, hb11⟩
        have hb12 := bstep hb10 hb11
        go_wp2_with fail
        refine (length_any (Pu.prog z0) UA UC _ pb _ _ rfl t1 t2 H83.out t3 HB3.out).mono ?_
        rintro e w7 ⟨he, rfl⟩
        rw [HE3.out, ← HSM.out.1] at he
        subst he
        go_wp2
        go_ret
        exact ⟨rfl, hb12⟩
end Go.Proofs.Ytnkkpdpjkfjmnaa.fnLengthPlain
