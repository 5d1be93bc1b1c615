/-
  The walk of the law FnMore.
-/
import Derived.Test.YtnkkpdpjkfjmnaaLBitAtW
namespace Go.Proofs.Ytnkkpdpjkfjmnaa.fnMore
open Go.RowKit
open Go.Proofs.Ytnkkpdpjkfjmnaa.fnBitAt (inS)
set_option linter.unusedVariables false

set_option maxRecDepth 100000 in
set_option maxHeartbeats 4000000 in
theorem walk (a0 : Option Addr) (len0 cap0 : Nat) (z0 : List Pu.Op) (a1 : Option Addr) (len1 cap1 : Nat) (z1 : List Pu.Op) (w : World) (w0' : IsOps w a0 len0 cap0 z0) (w1' : IsOps w a1 len1 cap1 z1) :
    Calls Try.prog 7 #[.slice a0 len0 cap0, .slice a1 len1 cap1] w fun e w' => e = .returned (.bool true) ∧ Below w.heap.size w w' := by
  obtain ⟨hll, hl, hm, hf, hS⟩ := w0'
  obtain ⟨hll1, hl1, hm1, hf1, hS1⟩ := w1'
  subst hll hll1
  unfold maxLen at hm hm1
  by_cases hbig : 2147483647 < z0.length
  · go_enter Try.func7, Try.ntmps7
    go_wp2_with fail
    go_ret
    exact ⟨rfl, Below.refl _ _⟩
  by_cases hbig1 : 2147483647 < z1.length
  · go_enter Try.func7, Try.ntmps7
    go_wp2_with fail
    go_ret
    exact ⟨rfl, Below.refl _ _⟩
  go_enter Try.func7, Try.ntmps7
  go_wp2_with fail
  refine (with_any a0 a1 z0.length cap0 z1.length cap1 z0 z1 w rfl rfl (by omega) (by omega) hS hS1).mono ?_
  rintro e w1 ⟨RA, RC, rfl, g1, g2, g3, hb1⟩
  have hlen : (z0 ++ z1).length < 8589934592 := by simp; omega
  have hfits : Fits (z0 ++ z1) := fun o ho => (List.mem_append.1 ho).elim (hf o) (hf1 o)
  generalize hlm : z0 ++ z1 = lm at g1 g3 hlen hfits ⊢
  have HLM := Lib.hid hlm
  clear hlm hf1 hS1
  go_wp2_with fail
  refine (of_any a0 cap0 z0 w1 hl (by unfold maxLen; omega) (by omega) hf (slAt hS hb1)).mono ?_
  rintro e w2 ⟨hb2, hp2⟩
  have hb12 := bstep hb1 hb2
  cases hr : Pu.ofL .empty z0 with
  | none =>
    rw [hr] at hp2
    obtain ⟨PA, n, PC, L, rfl⟩ := hp2
    have hr1 : Pu.ofL .empty lm = none := by rw [← HLM.out, Pu.ofL_append, hr]; rfl
    have HR1 := Lib.hid hr1
    clear hr hr1
    have hb3 := balloc hb12 (Obj.cells #[Value.slice PA n PC, Value.int IntKind.i64 L] 30)
    go_wp2_with fail
    have h3 := of_any RA RC lm (w2.alloc (Obj.cells #[Value.slice PA n PC, Value.int IntKind.i64 L] 30)) g1 g2 hlen hfits (slAt (slAt g3 hb2) (bnew w2 _))
    rw [HR1.out] at h3
    refine h3.mono ?_
    clear h3
    rintro e w3 ⟨hb4, P2, n2, C2, L2, rfl⟩
    go_wp2_with fail
    go_ret
    exact ⟨rfl, balloc (bstep hb3 hb4) _⟩
  | some s =>
    rw [hr] at hp2
    obtain ⟨PA, PC, rfl, hpv, hlong⟩ := hp2
    have hb3 := balloc hb12 (Obj.cells #[Value.slice PA s.parts.length PC, Value.int IntKind.i64 ↑s.long] 30)
    have hK6 := Me.Blk.new w2 30 #[Value.slice PA s.parts.length PC, Value.int IntKind.i64 ↑s.long]
    go_wp2_with fail
    refine (of_any RA RC lm (w2.alloc (Obj.cells #[Value.slice PA s.parts.length PC, Value.int IntKind.i64 ↑s.long] 30)) g1 g2 hlen hfits (slAt (slAt g3 hb2) (bnew w2 _))).mono ?_
    rintro e w3 ⟨hb4, hp3⟩
    have hK6b := hK6.below hb4 hK6.lt
    clear hpv hK6
    cases hr1 : Pu.ofL .empty lm with
    | none =>
      rw [hr1] at hp3
      obtain ⟨P2, n2, C2, L2, rfl⟩ := hp3
      clear hr hr1
      go_wp2_with fail
      go_ret
      exact ⟨rfl, balloc (bstep hb3 hb4) _⟩
    | some t =>
      rw [hr1] at hp3
      obtain ⟨P2, C2, rfl, hpv2, hlong2⟩ := hp3
      have hr2 := hr1
      rw [← HLM.out, Pu.ofL_append, hr] at hr2
      have hr3 : Pu.ofL s z1 = some t := hr2
      have hst := (Pu.ofL_long hr3).1
      have HBIT := Lib.hid (fun i hi => Pu.ofL_bit hr3 (i := i) hi)
      have HR := Lib.hid hr
      have HR1 := Lib.hid hr1
      clear hr hr1 hr2 hr3 hpv2 hf hfits
      have hb5 := balloc (bstep hb3 hb4) (Obj.cells #[Value.slice P2 t.parts.length C2, Value.int IntKind.i64 ↑t.long] 30)
      by_cases hL : 1048576 < t.long
      · go_wp2_with fail
        go_ret
        exact ⟨rfl, hb5⟩
      have hK6c := hK6b.alloc (Obj.cells #[Value.slice P2 t.parts.length C2, Value.int IntKind.i64 ↑t.long] 30)
      have hlt6 : w2.heap.size < w3.heap.size := hK6b.lt
      have hg3 := slAt (slAt (slAt (slAt g3 hb2) (bnew w2 (Obj.cells #[Value.slice PA s.parts.length PC, Value.int IntKind.i64 ↑s.long] 30))) hb4) (bnew w3 (Obj.cells #[Value.slice P2 t.parts.length C2, Value.int IntKind.i64 ↑t.long] 30))
      go_wp2_with fail
      refine (readlaw_any a0 cap0 z0 s _ hl (by unfold maxLen; omega) (by omega) (slAt hS hb5) HR.out).mono ?_
      rintro e w4 ⟨hb6, b, QA, QC, rfl, hpb, hwb, hsm, hlb⟩
      have HW1 := Lib.hid hwb
      have HS1 := Lib.hid hsm
      have hb7 := balloc (bstep hb5 hb6) (Obj.cells #[Value.slice QA b.parts.length QC, Value.int IntKind.i64 ↑b.long] 30)
      have hK6d := (hK6c.below hb6 hK6c.lt)
      have hlt6b : w2.heap.size < w4.heap.size := hK6d.lt
      have hg4 := slAt (slAt hg3 hb6) (bnew w4 (Obj.cells #[Value.slice QA b.parts.length QC, Value.int IntKind.i64 ↑b.long] 30))
      have hpb1 := hpb.below (bnew w4 (Obj.cells #[Value.slice QA b.parts.length QC, Value.int IntKind.i64 ↑b.long] 30))
      have hK10 := Me.Blk.new w4 30 #[Value.slice QA b.parts.length QC, Value.int IntKind.i64 ↑b.long]
      have hK6e := hK6d.alloc (Obj.cells #[Value.slice QA b.parts.length QC, Value.int IntKind.i64 ↑b.long] 30)
      clear hwb hsm hpb
      go_wp2_with fail
      refine (readlaw_any RA RC lm t _ g1 g2 hlen hg4 HR1.out).mono ?_
      rintro e w5 ⟨hb8, c, TA, TC, rfl, hpc, hwc, hsm2, hlc⟩
      have HW2 := Lib.hid hwc
      have HS2 := Lib.hid hsm2
      have hb9 := balloc (bstep hb7 hb8) (Obj.cells #[Value.slice TA c.parts.length TC, Value.int IntKind.i64 ↑c.long] 30)
      have hK6f := (hK6e.below hb8 hK6e.lt).alloc (Obj.cells #[Value.slice TA c.parts.length TC, Value.int IntKind.i64 ↑c.long] 30)
      have hK10b := (hK10.below hb8 hK10.lt)
      have hlt10 : w4.heap.size < w5.heap.size := hK10b.lt
      have hK10c := hK10b.alloc (Obj.cells #[Value.slice TA c.parts.length TC, Value.int IntKind.i64 ↑c.long] 30)
      have hK12 := Me.Blk.new w5 30 #[Value.slice TA c.parts.length TC, Value.int IntKind.i64 ↑c.long]
      have hpb2 := (hpb1.below hb8).below (bnew w5 (Obj.cells #[Value.slice TA c.parts.length TC, Value.int IntKind.i64 ↑c.long] 30))
      have hpc2 := hpc.below (bnew w5 (Obj.cells #[Value.slice TA c.parts.length TC, Value.int IntKind.i64 ↑c.long] 30))
      have hlt6c : w2.heap.size < w5.heap.size := by omega
      have hne : ((b.long : Int) != (s.long : Int)) = false := by rw [bne_eq_false_iff_eq, HS1.out.1]
      have hbc : b.long ≤ c.long := by have h1 := HS1.out.1; have h2 := HS2.out.1; omega
      have hlt' : decide ((c.long : Int) < (b.long : Int)) = false := by simp; omega
      have k6 : w5.cell? ⟨w2.heap.size, 1, none⟩ = some (.int .i64 (s.long : Int)) := (hK6e.below hb8 hK6e.lt).cell 1
      have k10 : w5.cell? ⟨w4.heap.size, 1, none⟩ = some (.int .i64 (b.long : Int)) := hK10b.cell 1
      have HBC := Lib.hid hbc
      clear hwc hsm2 hpc hb8 hb6 hb4 hb2 hK6e hK6d hK6c hK6b hK10 hK10b hg3 hg4 hpb1 hbc hb7 hb5 hb3 hb12 hb1 g3 hS
      have hnl : ¬ c.long < b.long := by have := HBC.out; omega
      go_wp2_with fail
      generalize w5.alloc (Obj.cells #[Value.slice TA c.parts.length TC, Value.int IntKind.i64 ↑c.long] 30) = wx at hb9 hK6f hK10c hK12 hpb2 hpc2 ⊢
      have q0 : wx.cell? ⟨w4.heap.size, 0, none⟩ = some (.slice QA b.parts.length QC) := hK10c.cell 0
      have q1 : wx.cell? ⟨w4.heap.size, 1, none⟩ = some (.int .i64 (b.long : Int)) := hK10c.cell 1
      have q2 : wx.cell? ⟨w5.heap.size, 0, none⟩ = some (.slice TA c.parts.length TC) := hK12.cell 0
      have q3 : wx.cell? ⟨w5.heap.size, 1, none⟩ = some (.int .i64 (c.long : Int)) := hK12.cell 1
      have hl1' := hK10c.lt
      have hl2' := hK12.lt
      have hkeep : ∀ u v : World, (fun w' : World => w'.cell? ⟨w4.heap.size, 0, none⟩ = some (Value.slice QA b.parts.length QC) ∧ w'.cell? ⟨w4.heap.size, 1, none⟩ = some (Value.int .i64 (b.long : Int)) ∧ w'.cell? ⟨w5.heap.size, 0, none⟩ = some (Value.slice TA c.parts.length TC) ∧ w'.cell? ⟨w5.heap.size, 1, none⟩ = some (Value.int .i64 (c.long : Int)) ∧ Below wx.heap.size wx w') u → Below u.heap.size u v → (fun w' : World => w'.cell? ⟨w4.heap.size, 0, none⟩ = some (Value.slice QA b.parts.length QC) ∧ w'.cell? ⟨w4.heap.size, 1, none⟩ = some (Value.int .i64 (b.long : Int)) ∧ w'.cell? ⟨w5.heap.size, 0, none⟩ = some (Value.slice TA c.parts.length TC) ∧ w'.cell? ⟨w5.heap.size, 1, none⟩ = some (Value.int .i64 (c.long : Int)) ∧ Below wx.heap.size wx w') v := by
        rintro u v ⟨r0, r1, r2, r3, r4⟩ g
        have m1 : w4.heap.size < u.heap.size := Nat.lt_of_lt_of_le hl1' r4.size
        have m2 : w5.heap.size < u.heap.size := Nat.lt_of_lt_of_le hl2' r4.size
        exact ⟨(g.cell (p := ⟨w4.heap.size, 0, none⟩) m1).trans r0, (g.cell (p := ⟨w4.heap.size, 1, none⟩) m1).trans r1, (g.cell (p := ⟨w5.heap.size, 0, none⟩) m2).trans r2, (g.cell (p := ⟨w5.heap.size, 1, none⟩) m2).trans r3, bstep r4 g⟩
      have hpbS : ∀ u : World, (fun w' : World => w'.cell? ⟨w4.heap.size, 0, none⟩ = some (Value.slice QA b.parts.length QC) ∧ w'.cell? ⟨w4.heap.size, 1, none⟩ = some (Value.int .i64 (b.long : Int)) ∧ w'.cell? ⟨w5.heap.size, 0, none⟩ = some (Value.slice TA c.parts.length TC) ∧ w'.cell? ⟨w5.heap.size, 1, none⟩ = some (Value.int .i64 (c.long : Int)) ∧ Below wx.heap.size wx w') u → Me.PartsV u _ (.slice QA b.parts.length QC) b.parts := fun u hu => hpb2.below hu.2.2.2.2
      have hpcS : ∀ u : World, (fun w' : World => w'.cell? ⟨w4.heap.size, 0, none⟩ = some (Value.slice QA b.parts.length QC) ∧ w'.cell? ⟨w4.heap.size, 1, none⟩ = some (Value.int .i64 (b.long : Int)) ∧ w'.cell? ⟨w5.heap.size, 0, none⟩ = some (Value.slice TA c.parts.length TC) ∧ w'.cell? ⟨w5.heap.size, 1, none⟩ = some (Value.int .i64 (c.long : Int)) ∧ Below wx.heap.size wx w') u → Me.PartsV u _ (.slice TA c.parts.length TC) c.parts := fun u hu => hpc2.below hu.2.2.2.2
      go_loopw [79] (fun k wr => ∃ j : Nat, k = .int .i64 j ∧ j ≤ b.long ∧ (fun w' : World => w'.cell? ⟨w4.heap.size, 0, none⟩ = some (Value.slice QA b.parts.length QC) ∧ w'.cell? ⟨w4.heap.size, 1, none⟩ = some (Value.int .i64 (b.long : Int)) ∧ w'.cell? ⟨w5.heap.size, 0, none⟩ = some (Value.slice TA c.parts.length TC) ∧ w'.cell? ⟨w5.heap.size, 1, none⟩ = some (Value.int .i64 (c.long : Int)) ∧ Below wx.heap.size wx w') wr)
        (fun k _ => b.long - (intOf k).toNat)
      case atStart => exact ⟨0, rfl, Nat.zero_le _, q0, q1, q2, q3, Below.refl _ _⟩
      case round =>
        obtain ⟨j, rfl, hj, r0, r1, r2, r3, r4⟩ := hrel
        by_cases hlt : j < b.long
        · have hjb : j < s.long := by have := HS1.out.1; omega
          have hjc : j < c.long := by have := HBC.out; omega
          obtain ⟨x, hx⟩ : ∃ x, Pu.bit b j = x := ⟨_, rfl⟩
          have HX := Lib.hid hx
          have HX2 := Lib.hid ((HS2.out.2 j hjc).trans ((HBIT.out j hjb).trans ((HS1.out.2 j hlt).symm.trans hx)))
          have hw4 : w4.heap.size < wr.heap.size := Nat.lt_of_lt_of_le hl1' r4.size
          have hw5 : w5.heap.size < wr.heap.size := Nat.lt_of_lt_of_le hl2' r4.size
          clear hx hK6f hK10c hK12 hb9 hne
          go_wp2_with fail
          go_region_held3 (fun w' : World => w'.cell? ⟨w4.heap.size, 0, none⟩ = some (Value.slice QA b.parts.length QC) ∧ w'.cell? ⟨w4.heap.size, 1, none⟩ = some (Value.int .i64 (b.long : Int)) ∧ w'.cell? ⟨w5.heap.size, 0, none⟩ = some (Value.slice TA c.parts.length TC) ∧ w'.cell? ⟨w5.heap.size, 1, none⟩ = some (Value.int .i64 (c.long : Int)) ∧ Below wx.heap.size wx w')
            (first | assumption | exact hqS | exact ⟨r0, r1, r2, r3, r4.drew⟩ | go_keep)
            (first
            | (go_at_call_of 24 (Value.slice QA b.parts.length QC); refine (inS (S := (fun w' : World => w'.cell? ⟨w4.heap.size, 0, none⟩ = some (Value.slice QA b.parts.length QC) ∧ w'.cell? ⟨w4.heap.size, 1, none⟩ = some (Value.int .i64 (b.long : Int)) ∧ w'.cell? ⟨w5.heap.size, 0, none⟩ = some (Value.slice TA c.parts.length TC) ∧ w'.cell? ⟨w5.heap.size, 1, none⟩ = some (Value.int .i64 (c.long : Int)) ∧ Below wx.heap.size wx w')) (at_is b QA QC j _ x _ HX.out (hpbS _ (by assumption)) HW1.out hlt hlb) (by assumption) hkeep).mono ?_; rintro e w' ⟨rfl, hqS⟩)
            | (go_at_call_of 24 (Value.slice TA c.parts.length TC); refine (inS (S := (fun w' : World => w'.cell? ⟨w4.heap.size, 0, none⟩ = some (Value.slice QA b.parts.length QC) ∧ w'.cell? ⟨w4.heap.size, 1, none⟩ = some (Value.int .i64 (b.long : Int)) ∧ w'.cell? ⟨w5.heap.size, 0, none⟩ = some (Value.slice TA c.parts.length TC) ∧ w'.cell? ⟨w5.heap.size, 1, none⟩ = some (Value.int .i64 (c.long : Int)) ∧ Below wx.heap.size wx w')) (at_is c TA TC j _ x _ HX2.out (hpcS _ (by assumption)) HW2.out hjc hlc) (by assumption) hkeep).mono ?_; rintro e w' ⟨rfl, hqS⟩))
          all_goals
            go_wp2
            go_roundw
            case rel => exact ⟨j + 1, rfl, by omega, by assumption⟩
            case measure => simp [intOf]; omega
        · obtain rfl : j = b.long := by omega
          go_wp2
          go_ret
          exact ⟨rfl, bstep hb9 r4⟩
end Go.Proofs.Ytnkkpdpjkfjmnaa.fnMore
