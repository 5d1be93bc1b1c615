/-
  The walk of the law FnZerosTwice.
-/
import Derived.Test.YtnkkpdpjkfjmnaaPlain
import Derived.BigQuiet
namespace Go.Proofs.Ytnkkpdpjkfjmnaa.fnZerosTwice
open Go.RowKit
set_option linter.unusedVariables false

set_option maxRecDepth 100000 in
set_option maxHeartbeats 4000000 in
theorem walk (a0 : Option Addr) (len0 cap0 : Nat) (z0 : List Pu.Op) (a1 a2 : Int) (w : World) (w0 : IsOps w a0 len0 cap0 z0) (w1' : (Lit.int .i64 a1).wf = true) (w2' : (Lit.int .i64 a2).wf = true) :
    Calls Try.prog 14 #[.slice a0 len0 cap0, .int .i64 a1, .int .i64 a2] w fun e w' => e = .returned (.bool true) ∧ Below w.heap.size w w' := by
  obtain ⟨hll, hl, hm, hf, hS⟩ := w0
  obtain ⟨ha1, ha2⟩ := Me.wf_i64 w1'
  obtain ⟨hb1', hb2'⟩ := Me.wf_i64 w2'
  subst hll
  unfold maxLen at hm
  clear w1' w2'
  by_cases hbig : 2147483647 < z0.length
  · go_enter Try.func14, Try.ntmps14
    go_wp2
    go_ret
    exact ⟨rfl, Below.refl _ _⟩
  · go_enter Try.func14, Try.ntmps14
    go_wp2_with fail
    refine (of_any a0 cap0 z0 w hl (by unfold maxLen; omega) (by omega) hf hS).mono ?_
    rintro e w1 ⟨hb1, hm1⟩
    cases hr : Pu.ofL .empty z0 with
    | none =>
      rw [hr] at hm1
      obtain ⟨PA, n, PC, L, rfl⟩ := hm1
      clear hr
      go_wp2_with fail
      go_ret
      exact ⟨rfl, balloc hb1 _⟩
    | some s =>
      rw [hr] at hm1
      obtain ⟨PA, PC, rfl, hpv, hlong⟩ := hm1
      clear hf hpv
      have hb2 := balloc hb1 (Obj.cells #[Value.slice PA s.parts.length PC, Value.int IntKind.i64 ↑s.long] 30)
      by_cases hL : 524288 < s.long
      · clear hr
        go_wp2_with fail
        go_ret
        exact ⟨rfl, hb2⟩
      have hp' := Pu.plcN_lt a1 5000 (by omega)
      have hq' := Pu.plcN_lt a2 5000 (by omega)
      obtain ⟨p, hp⟩ : ∃ p, Pu.plcN a1 5000 = p := ⟨_, rfl⟩
      obtain ⟨q, hq⟩ : ∃ q, Pu.plcN a2 5000 = q := ⟨_, rfl⟩
      rw [hp] at hp'
      rw [hq] at hq'
      have HP := Lib.hid hp
      have HQ := Lib.hid hq
      obtain ⟨S, T, hO, hO2, hST⟩ := Pu.zeros_twice hr (s.long + p) (s.long + p + q) (by omega) (by omega) (by omega)
      simp only [Int.natCast_add] at hO hO2
      have HO := Lib.hid hO
      have HO2 := Lib.hid hO2
      have HST := Lib.hid hST
      clear hr hp hq hO hO2 hST
      have hK9 := Me.Blk.new w1 30 #[Value.slice PA s.parts.length PC, Value.int IntKind.i64 ↑s.long]
      go_wp2
      go_quiet (first | (go_at_call 17; refine Calls.quiet_of_same ((place_nat a1 5000 _ ha1 ha2 (by omega) (by omega)).mono fun e w' h => ⟨by rw [h.1, HP.out], h.2.symm⟩)))
      have hb2 := Me.below_drewN hb2 nq
      generalize (w1.alloc (Obj.cells #[Value.slice PA s.parts.length PC, Value.int IntKind.i64 ↑s.long] 30)).drewN nq = wq at hb2 ⊢
      go_wp2_with (go_at_call 17; refine (place_nat a2 5000 _ hb1' hb2' (by omega) (by omega)).mono ?_; rintro e w' ⟨he, rfl⟩; rw [HQ.out] at he; subst he)
      have hlen1 : (z0 ++ ([⟨1, (s.long : Int) + p, 0⟩, ⟨1, (s.long : Int) + p + q, 0⟩] : List Pu.Op)).length < 8589934592 := by simp; omega
      have hlen2 : (z0 ++ ([⟨1, (s.long : Int) + p + q, 0⟩] : List Pu.Op)).length < 8589934592 := by simp; omega
      have hb3 := balloc hb2 (Obj.cells #[Value.int IntKind.i64 1, Value.int IntKind.i64 (↑s.long + ↑p), Value.int IntKind.i64 0, Value.int IntKind.i64 1, Value.int IntKind.i64 (↑s.long + ↑p + ↑q), Value.int IntKind.i64 0] 45)
      refine (with_any a0 (some ⟨wq.heap.size, 0, none⟩) z0.length cap0 2 2 z0 [⟨1, (s.long : Int) + p, 0⟩, ⟨1, (s.long : Int) + p + q, 0⟩] _ rfl rfl (by omega) (by omega) (slAt hS hb3) ?sl).mono ?_
      case sl =>
        refine Me.Sl.new wq 45 #[Value.int IntKind.i64 1, Value.int IntKind.i64 (↑s.long + ↑p), Value.int IntKind.i64 0, Value.int IntKind.i64 1, Value.int IntKind.i64 (↑s.long + ↑p + ↑q), Value.int IntKind.i64 0] _ rfl _ ?_
        rw [World.size_alloc]; omega
      rintro e w3 ⟨RA, RC, rfl, g1, g2, g3, hb4⟩
      generalize z0 ++ ([⟨1, (s.long : Int) + p, 0⟩, ⟨1, (s.long : Int) + p + q, 0⟩] : List Pu.Op) = lm at HO hlen1 g1 g3 ⊢
      have hb5 := bstep hb3 hb4
      go_wp2_with fail
      refine (readlaw_any RA RC lm S w3 g1 g2 hlen1 g3 HO.out).mono ?_
      rintro e w4 ⟨hb6, b, QA, QC, rfl, hpb, hwb, hsm, hlb⟩
      have HW1 := Lib.hid hwb
      have HS1 := Lib.hid hsm
      have hb7 := balloc (balloc (bstep hb5 hb6) (Obj.cells #[Value.slice QA b.parts.length QC, Value.int IntKind.i64 ↑b.long] 30)) (Obj.cells #[Value.int IntKind.i64 1, Value.int IntKind.i64 (↑s.long + ↑p + ↑q), Value.int IntKind.i64 0] 45)
      clear hwb hsm
      go_wp2_with fail
      refine (with_any a0 (some ⟨w4.heap.size + 1, 0, none⟩) z0.length cap0 1 1 z0 [⟨1, (s.long : Int) + p + q, 0⟩] _ rfl rfl (by omega) (by omega) (slAt hS hb7) ?sl).mono ?_
      case sl =>
        have h := Me.Sl.new (w4.alloc (Obj.cells #[Value.slice QA b.parts.length QC, Value.int IntKind.i64 ↑b.long] 30)) 45 #[Value.int IntKind.i64 1, Value.int IntKind.i64 (↑s.long + ↑p + ↑q), Value.int IntKind.i64 0] _ rfl (w4.heap.size + 1 + 1) (by simp)
        rw [World.size_alloc] at h
        rw [World.size_alloc, World.size_alloc]
        exact h
      rintro e w5 ⟨RA2, RC2, rfl, g4, g5, g6, hb8⟩
      generalize z0 ++ ([⟨1, (s.long : Int) + p + q, 0⟩] : List Pu.Op) = ln at HO2 hlen2 g4 g6 ⊢
      have hK0 := ((Me.Blk.new w4 30 #[Value.slice QA b.parts.length QC, Value.int IntKind.i64 ↑b.long]).alloc (Obj.cells #[Value.int IntKind.i64 1, Value.int IntKind.i64 (↑s.long + ↑p + ↑q), Value.int IntKind.i64 0] 45)).below hb8 (by simp; omega)
      have hp0 := ((hpb.below (bnew w4 (Obj.cells #[Value.slice QA b.parts.length QC, Value.int IntKind.i64 ↑b.long] 30))).below (bnew _ (Obj.cells #[Value.int IntKind.i64 1, Value.int IntKind.i64 (↑s.long + ↑p + ↑q), Value.int IntKind.i64 0] 45))).below hb8
      have hb9 := bstep hb7 hb8
      have hlt0 : w4.heap.size < w5.heap.size := hK0.lt
      clear hb8
      go_wp2_with fail
      refine (readlaw_any RA2 RC2 ln T w5 g4 g5 hlen2 g6 HO2.out).mono ?_
      rintro e w6 ⟨hb10, c, TA, TC, rfl, hpc, hwc, hsm2, hlc⟩
      have HW2 := Lib.hid hwc
      have HS2 := Lib.hid hsm2
      have hK := hK0.below hb10 hK0.lt
      have k0 : w6.cell? ⟨w4.heap.size, 0, none⟩ = some (.slice QA b.parts.length QC) := hK.cell 0
      have k1 : w6.cell? ⟨w4.heap.size, 1, none⟩ = some (.int .i64 (b.long : Int)) := hK.cell 1
      have hlt : w4.heap.size < w6.heap.size := hK.lt
      have hp1 := (hp0.below hb10).below (bnew w6 (Obj.cells #[Value.slice TA c.parts.length TC, Value.int IntKind.i64 ↑c.long] 30))
      have hp2 := hpc.below (bnew w6 (Obj.cells #[Value.slice TA c.parts.length TC, Value.int IntKind.i64 ↑c.long] 30))
      clear hwc hsm2 hK hK0
      go_wp2_with fail
      refine (same_any b c QA TA QC TC _ _ _ hp1 hp2 HW1.out HW2.out hlb hlc (HS1.out.trans (HST.out.trans HS2.out.symm))).mono ?_
      rintro e w7 ⟨rfl, hb11⟩
      go_wp2
      go_ret
      exact ⟨rfl, bstep (balloc (bstep hb9 hb10) _) hb11⟩
end Go.Proofs.Ytnkkpdpjkfjmnaa.fnZerosTwice
