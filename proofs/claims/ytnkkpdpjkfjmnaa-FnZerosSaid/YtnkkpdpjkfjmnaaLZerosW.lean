/-
  The walk of the law FnZeros.
-/
import Derived.Test.YtnkkpdpjkfjmnaaLBitAtW
namespace Go.Proofs.Ytnkkpdpjkfjmnaa.fnZeros
open Go.RowKit
open Go.Proofs.Ytnkkpdpjkfjmnaa.fnBitAt (inS)
set_option linter.unusedVariables false

theorem zeros_one (n : Nat) (h : n ≤ 1152921504606846976) : ∃ s, Pu.ofL .empty [⟨1, n, 0⟩] = some s ∧ s.long = n ∧ ∀ i, i < n → Pu.bit s i = false := by
  obtain ⟨s, hs, hz⟩ := Pu.zeroTo_some (b := .empty) (N := n) (by simp [Pu.Bs.empty]) h
  refine ⟨s, by simp [Pu.ofL, Pu.ofStep_zero, hs], by rw [hz.1]; simp [Pu.Bs.empty], fun i hi => ?_⟩
  have := hz.2.2.2 i (by simpa [Pu.Bs.empty] using hi)
  simpa [Pu.Bs.empty] using this

set_option maxRecDepth 100000 in
set_option maxHeartbeats 4000000 in
theorem walk (a0 a1 : Int) (w : World) (w0' : (Lit.int .i64 a0).wf = true) (w1' : (Lit.int .i64 a1).wf = true) :
    Calls Try.prog 13 #[.int .i64 a0, .int .i64 a1] w fun e w' => e = .returned (.bool true) ∧ Below w.heap.size w w' := by
  obtain ⟨ha1, ha2⟩ := Me.wf_i64 w0'
  obtain ⟨hb1', hb2'⟩ := Me.wf_i64 w1'
  clear w0' w1'
  have hn' := Pu.plcN_lt a0 1152921504606846977 (by omega)
  obtain ⟨n, hn⟩ : ∃ n, Pu.plcN a0 1152921504606846977 = n := ⟨_, rfl⟩
  rw [hn] at hn'
  have HN := Lib.hid hn
  have hnn : n ≤ 1152921504606846976 := by omega
  obtain ⟨s, hs, hsl, hsb⟩ := zeros_one n hnn
  have HO := Lib.hid hs
  have HZ := Lib.hid hsb
  clear hn hn' hs hsb
  go_enter Try.func13, Try.ntmps13
  go_wp2_with (go_at_call 17; refine (place_nat a0 _ _ ha1 ha2 (by omega) (by omega)).mono ?_; rintro e w' ⟨he, rfl⟩; rw [HN.out] at he; subst he)
  have hb1 := bnew w (Obj.cells #[Value.int IntKind.i64 1, Value.int IntKind.i64 ↑n, Value.int IntKind.i64 0] 45)
  refine (readlaw_any (some ⟨w.heap.size, 0, none⟩) 1 [⟨1, n, 0⟩] s _ (by simp) (by simp [maxLen]) (by simp) ?sl HO.out).mono ?_
  case sl =>
    refine Me.Sl.new w 45 _ _ rfl _ ?_
    rw [World.size_alloc]; omega
  rintro e w2 ⟨hb2, b, QA, QC, rfl, hpb, hwb, hsm, hlb⟩
  have HWB := Lib.hid hwb
  have HS := Lib.hid hsm
  have hbl : b.long = n := hsm.1.trans hsl
  have hb3 := balloc (bstep hb1 hb2) (Obj.cells #[Value.slice QA b.parts.length QC, Value.int IntKind.i64 ↑b.long] 30)
  have hpb2 := hpb.below (bnew w2 (Obj.cells #[Value.slice QA b.parts.length QC, Value.int IntKind.i64 ↑b.long] 30))
  have hB3 := Me.Blk.new w2 30 #[Value.slice QA b.parts.length QC, Value.int IntKind.i64 ↑b.long]
  have heq : ((b.long : Int) == (n : Int)) = true := by simp [hbl]
  have HBL := Lib.hid hbl
  clear hwb hsm hpb hb2 hb1 hbl
  by_cases h0 : n = 0
  · have h0'' : ((n : Int) == 0) = true := by simp [h0]
    have h0' : decide ((n : Int) = 0) = true := by simp [h0]
    have H0 := Lib.hid h0
    clear h0
    go_wp2_with fail
    generalize (w2.alloc (Obj.cells #[Value.slice QA b.parts.length QC, Value.int IntKind.i64 ↑b.long] 30)) = wx at hB3 hb3 hpb2 ⊢
    have q1 : wx.cell? ⟨w2.heap.size, 1, none⟩ = some (.int .i64 (b.long : Int)) := hB3.cell 1
    go_quiet (fail)
    go_wp2
    go_ret
    exact ⟨rfl, Me.below_drewN hb3 _⟩
  · have h0'' : ((n : Int) == 0) = false := by simp [h0]
    have h0' : decide ((n : Int) = 0) = false := by simp [h0]
    have hpl := Pu.plcN_lt a1 n (by omega)
    obtain ⟨i, hi⟩ : ∃ i, Pu.plcN a1 n = i := ⟨_, rfl⟩
    rw [hi] at hpl
    have HI := Lib.hid hi
    have hib : i < b.long := by have := HBL.out; omega
    have HX := Lib.hid ((HS.out.2 i hib).trans (HZ.out i (by omega)))
    have h1s : (1 : Int) ≤ n := by omega
    have h2s : (n : Int) ≤ 9223372036854775807 := by omega
    clear hi hpl
    go_wp2_with fail
    generalize (w2.alloc (Obj.cells #[Value.slice QA b.parts.length QC, Value.int IntKind.i64 ↑b.long] 30)) = wx at hB3 hb3 hpb2 ⊢
    have q0 : wx.cell? ⟨w2.heap.size, 0, none⟩ = some (.slice QA b.parts.length QC) := hB3.cell 0
    have q1 : wx.cell? ⟨w2.heap.size, 1, none⟩ = some (.int .i64 (b.long : Int)) := hB3.cell 1
    have hl2 := hB3.lt
    have hkeep : ∀ u v : World, (fun w' : World => w'.cell? ⟨w2.heap.size, 0, none⟩ = some (Value.slice QA b.parts.length QC) ∧ w'.cell? ⟨w2.heap.size, 1, none⟩ = some (Value.int .i64 (b.long : Int)) ∧ Below wx.heap.size wx w') u → Below u.heap.size u v → (fun w' : World => w'.cell? ⟨w2.heap.size, 0, none⟩ = some (Value.slice QA b.parts.length QC) ∧ w'.cell? ⟨w2.heap.size, 1, none⟩ = some (Value.int .i64 (b.long : Int)) ∧ Below wx.heap.size wx w') v := by
      rintro u v ⟨r2, r3, r4⟩ g
      have m2 : w2.heap.size < u.heap.size := Nat.lt_of_lt_of_le hl2 r4.size
      exact ⟨(g.cell (p := ⟨w2.heap.size, 0, none⟩) m2).trans r2, (g.cell (p := ⟨w2.heap.size, 1, none⟩) m2).trans r3, bstep r4 g⟩
    have hpbS : ∀ u : World, (fun w' : World => w'.cell? ⟨w2.heap.size, 0, none⟩ = some (Value.slice QA b.parts.length QC) ∧ w'.cell? ⟨w2.heap.size, 1, none⟩ = some (Value.int .i64 (b.long : Int)) ∧ Below wx.heap.size wx w') u → Me.PartsV u _ (.slice QA b.parts.length QC) b.parts := fun u hu => hpb2.below hu.2.2
    have hfin : ∀ u : World, (fun w' : World => w'.cell? ⟨w2.heap.size, 0, none⟩ = some (Value.slice QA b.parts.length QC) ∧ w'.cell? ⟨w2.heap.size, 1, none⟩ = some (Value.int .i64 (b.long : Int)) ∧ Below wx.heap.size wx w') u → Below w.heap.size w u := fun u hu => bstep hb3 hu.2.2
    clear hB3 hb3
    go_region_held3 (fun w' : World => w'.cell? ⟨w2.heap.size, 0, none⟩ = some (Value.slice QA b.parts.length QC) ∧ w'.cell? ⟨w2.heap.size, 1, none⟩ = some (Value.int .i64 (b.long : Int)) ∧ Below wx.heap.size wx w')
      (first | assumption | exact hqS | exact ⟨q0, q1, (Below.refl _ _).drew⟩ | go_keep)
      (first
      | (go_at_call 17; refine (place_nat a1 n _ hb1' hb2' h1s h2s).mono ?_; rintro e w' ⟨he, rfl⟩; rw [HI.out] at he; subst he)
      | (go_at_call 24; refine (inS (S := (fun w' : World => w'.cell? ⟨w2.heap.size, 0, none⟩ = some (Value.slice QA b.parts.length QC) ∧ w'.cell? ⟨w2.heap.size, 1, none⟩ = some (Value.int .i64 (b.long : Int)) ∧ Below wx.heap.size wx w')) (at_is b QA QC i _ false _ HX.out (hpbS _ (by assumption)) HWB.out hib hlb) (by assumption) hkeep).mono ?_; rintro e w' ⟨rfl, hqS⟩))
    all_goals
      go_wp2
      go_ret
      refine ⟨rfl, hfin _ ?_⟩
      assumption
end Go.Proofs.Ytnkkpdpjkfjmnaa.fnZeros
