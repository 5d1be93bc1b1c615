/-
  The walk of the law FnBitAt.
-/
import Derived.Test.YtnkkpdpjkfjmnaaWSame
import Derived.Test.YtnkkpdpjkfjmnaaOpen
import Derived.Deep.RegionWith
import Derived.BigRegion
import Derived.Deep.RegionHeld3
import Derived.Test.YtnkkpdpjkfjmnaaPlain
namespace Go.Proofs.Ytnkkpdpjkfjmnaa.fnBitAt
open Go.RowKit
set_option linter.unusedVariables false

theorem inS {f : FuncId} {args : Array Value} {u : World} {e0 : Ending} {S : World → Prop} (h : Calls Try.prog f args u fun e w' => e = e0 ∧ Below u.heap.size u w') (hS : S u) (hk : ∀ u v, S u → Below u.heap.size u v → S v) : Calls Try.prog f args u fun e w' => e = e0 ∧ S w' :=
  h.mono fun e w' ⟨he, hb⟩ => ⟨he, hk _ _ hS hb⟩

set_option maxRecDepth 100000 in
set_option maxHeartbeats 4000000 in
theorem walk (a0 : Option Addr) (len0 cap0 : Nat) (z0 : List Pu.Op) (a1 : Int) (w : World) (w0 : IsOps w a0 len0 cap0 z0) (w1' : (Lit.int .i64 a1).wf = true) :
    Calls Try.prog 5 #[.slice a0 len0 cap0, .int .i64 a1] w fun e w' => e = .returned (.bool true) ∧ Below w.heap.size w w' := by
  obtain ⟨hll, hl, hm, hf, hS⟩ := w0
  obtain ⟨ha1, ha2⟩ := Me.wf_i64 w1'
  subst hll
  unfold maxLen at hm
  clear w1'
  by_cases hbig : 2147483647 < z0.length
  · go_enter Try.func5, Try.ntmps5
    go_wp2
    go_ret
    exact ⟨rfl, Below.refl _ _⟩
  · go_enter Try.func5, Try.ntmps5
    go_wp2_with fail
    refine (of_any a0 cap0 z0 w hl (by unfold maxLen; omega) (by omega) hf hS).mono ?_
    rintro e w1 ⟨hb1, hm1⟩
    cases hr : Pu.ofL .empty z0 with
    | none =>
      rw [hr] at hm1
      obtain ⟨PA, n, PC, L, rfl⟩ := hm1
      clear hr
      go_wp2_with fail
      go_ret
      exact ⟨rfl, hb1.alloc hb1.size _⟩
    | some s =>
      rw [hr] at hm1
      obtain ⟨PA, PC, rfl, hpv, hlong⟩ := hm1
      have HR := Lib.hid hr
      have HW := Lib.hid (Pu.ofL_wf Pu.wf_empty hr)
      clear hr hf
      have hbel1 : Below w.heap.size w (w1.alloc (Obj.cells #[Value.slice PA s.parts.length PC, Value.int IntKind.i64 ↑s.long] 30)) := hb1.alloc hb1.size _
      have hS1 := ((hS.below hb1 (Nat.le_refl _)).alloc hb1.size (Obj.cells #[Value.slice PA s.parts.length PC, Value.int IntKind.i64 ↑s.long] 30)).more (B' := (w1.alloc (Obj.cells #[Value.slice PA s.parts.length PC, Value.int IntKind.i64 ↑s.long] 30)).heap.size) (by have := hb1.size; simp; omega)
      have hK := Me.Blk.new w1 30 #[Value.slice PA s.parts.length PC, Value.int IntKind.i64 ↑s.long]
      have hp1 := hpv.below ((Below.refl _ _).alloc (Nat.le_refl _) (Obj.cells #[Value.slice PA s.parts.length PC, Value.int IntKind.i64 ↑s.long] 30))
      go_wp2_with fail
      refine (readlaw_any a0 cap0 z0 s _ hl (by unfold maxLen; omega) (by omega) hS1 HR.out).mono ?_
      rintro e w2 ⟨hb2, b, QA, QC, rfl, hpb, hwb, hsm, hlb⟩
      have HWB := Lib.hid hwb
      have HS := Lib.hid hsm
      have hK2 := hK.below hb2 hK.lt
      have k1 : w2.cell? ⟨w1.heap.size, 1, none⟩ = some (.int .i64 (s.long : Int)) := hK2.cell 1
      have hlt : w1.heap.size < w2.heap.size := hK2.lt
      have hp2 := (hp1.below hb2).below ((Below.refl _ _).alloc (Nat.le_refl _) (Obj.cells #[Value.slice QA b.parts.length QC, Value.int IntKind.i64 ↑b.long] 30))
      have hpb2 := hpb.below ((Below.refl _ _).alloc (Nat.le_refl _) (Obj.cells #[Value.slice QA b.parts.length QC, Value.int IntKind.i64 ↑b.long] 30))
      have hne : ((b.long : Int) != (s.long : Int)) = false := by rw [bne_eq_false_iff_eq, hsm.1]
      have hb4 := hbel1.trans (hb2.mono (by have := hb1.size; simp; omega))
      have hb5 := hb4.alloc hb4.size (Obj.cells #[Value.slice QA b.parts.length QC, Value.int IntKind.i64 ↑b.long] 30)
      have hK3 := hK2.alloc (Obj.cells #[Value.slice QA b.parts.length QC, Value.int IntKind.i64 ↑b.long] 30)
      have hB3 := Me.Blk.new w2 30 #[Value.slice QA b.parts.length QC, Value.int IntKind.i64 ↑b.long]
      clear hwb hsm hK hK2 hS1 hp1
      by_cases h0 : s.long = 0
      · have h0' : decide ((s.long : Int) = 0) = true := by simp [h0]
        have h0'' : ((s.long : Int) == 0) = true := by simp [h0]
        go_wp2
        generalize (w2.alloc (Obj.cells #[Value.slice QA b.parts.length QC, Value.int IntKind.i64 ↑b.long] 30)) = wx at hK3 hB3 hb5 hp2 hpb2 ⊢
        have q1 : wx.cell? ⟨w1.heap.size, 1, none⟩ = some (.int .i64 (s.long : Int)) := hK3.cell 1
        go_quiet (fail)
        go_wp2
        go_ret
        exact ⟨rfl, Me.below_drewN hb5 _⟩
      · have h0' : decide ((s.long : Int) = 0) = false := by simp [h0]
        have h0'' : ((s.long : Int) == 0) = false := by simp [h0]
        have hpl := Pu.plcN_lt a1 s.long (by omega)
        obtain ⟨i, hi⟩ : ∃ i, Pu.plcN a1 s.long = i := ⟨_, rfl⟩
        rw [hi] at hpl
        have HI := Lib.hid hi
        have his : i < s.long := by omega
        have hib : i < b.long := by have := HS.out.1; omega
        obtain ⟨x, hx⟩ : ∃ x, Pu.bit b i = x := ⟨_, rfl⟩
        have HX := Lib.hid hx
        have HX2 := Lib.hid ((HS.out.2 i hib).symm.trans hx)
        clear hx hi
        go_wp2
        generalize (w2.alloc (Obj.cells #[Value.slice QA b.parts.length QC, Value.int IntKind.i64 ↑b.long] 30)) = wx at hK3 hB3 hb5 hp2 hpb2 ⊢
        have q0 : wx.cell? ⟨w1.heap.size, 0, none⟩ = some (.slice PA s.parts.length PC) := hK3.cell 0
        have q1 : wx.cell? ⟨w1.heap.size, 1, none⟩ = some (.int .i64 (s.long : Int)) := hK3.cell 1
        have q2 : wx.cell? ⟨w2.heap.size, 0, none⟩ = some (.slice QA b.parts.length QC) := hB3.cell 0
        have q3 : wx.cell? ⟨w2.heap.size, 1, none⟩ = some (.int .i64 (b.long : Int)) := hB3.cell 1
        have hl1 := hK3.lt
        have hl2 := hB3.lt
        clear hK3 hB3 hpv hpb hb2
        have hkeep : ∀ u v : World, (fun w' : World => w'.cell? ⟨w1.heap.size, 0, none⟩ = some (Value.slice PA s.parts.length PC) ∧ w'.cell? ⟨w1.heap.size, 1, none⟩ = some (Value.int .i64 (s.long : Int)) ∧ w'.cell? ⟨w2.heap.size, 0, none⟩ = some (Value.slice QA b.parts.length QC) ∧ w'.cell? ⟨w2.heap.size, 1, none⟩ = some (Value.int .i64 (b.long : Int)) ∧ Below wx.heap.size wx w') u → Below u.heap.size u v → (fun w' : World => w'.cell? ⟨w1.heap.size, 0, none⟩ = some (Value.slice PA s.parts.length PC) ∧ w'.cell? ⟨w1.heap.size, 1, none⟩ = some (Value.int .i64 (s.long : Int)) ∧ w'.cell? ⟨w2.heap.size, 0, none⟩ = some (Value.slice QA b.parts.length QC) ∧ w'.cell? ⟨w2.heap.size, 1, none⟩ = some (Value.int .i64 (b.long : Int)) ∧ Below wx.heap.size wx w') v := by
          rintro u v ⟨r0, r1, r2, r3, r4⟩ g
          have m1 : w1.heap.size < u.heap.size := Nat.lt_of_lt_of_le hl1 r4.size
          have m2 : w2.heap.size < u.heap.size := Nat.lt_of_lt_of_le hl2 r4.size
          exact ⟨(g.cell (p := ⟨w1.heap.size, 0, none⟩) m1).trans r0, (g.cell (p := ⟨w1.heap.size, 1, none⟩) m1).trans r1, (g.cell (p := ⟨w2.heap.size, 0, none⟩) m2).trans r2, (g.cell (p := ⟨w2.heap.size, 1, none⟩) m2).trans r3, bstep r4 g⟩
        have hpbS : ∀ u : World, (fun w' : World => w'.cell? ⟨w1.heap.size, 0, none⟩ = some (Value.slice PA s.parts.length PC) ∧ w'.cell? ⟨w1.heap.size, 1, none⟩ = some (Value.int .i64 (s.long : Int)) ∧ w'.cell? ⟨w2.heap.size, 0, none⟩ = some (Value.slice QA b.parts.length QC) ∧ w'.cell? ⟨w2.heap.size, 1, none⟩ = some (Value.int .i64 (b.long : Int)) ∧ Below wx.heap.size wx w') u → Me.PartsV u _ (.slice QA b.parts.length QC) b.parts := fun u hu => hpb2.below hu.2.2.2.2
        have hpsS : ∀ u : World, (fun w' : World => w'.cell? ⟨w1.heap.size, 0, none⟩ = some (Value.slice PA s.parts.length PC) ∧ w'.cell? ⟨w1.heap.size, 1, none⟩ = some (Value.int .i64 (s.long : Int)) ∧ w'.cell? ⟨w2.heap.size, 0, none⟩ = some (Value.slice QA b.parts.length QC) ∧ w'.cell? ⟨w2.heap.size, 1, none⟩ = some (Value.int .i64 (b.long : Int)) ∧ Below wx.heap.size wx w') u → Me.PartsV u _ (.slice PA s.parts.length PC) s.parts := fun u hu => hp2.below hu.2.2.2.2
        have hfin : ∀ u : World, (fun w' : World => w'.cell? ⟨w1.heap.size, 0, none⟩ = some (Value.slice PA s.parts.length PC) ∧ w'.cell? ⟨w1.heap.size, 1, none⟩ = some (Value.int .i64 (s.long : Int)) ∧ w'.cell? ⟨w2.heap.size, 0, none⟩ = some (Value.slice QA b.parts.length QC) ∧ w'.cell? ⟨w2.heap.size, 1, none⟩ = some (Value.int .i64 (b.long : Int)) ∧ Below wx.heap.size wx w') u → Below w.heap.size w u := fun u hu => bstep hb5 hu.2.2.2.2
        have h1s : (1 : Int) ≤ s.long := by omega
        have h2s : (s.long : Int) ≤ 9223372036854775807 := by omega
        clear hb5 hb4 hbel1 hb1 hS hpl
        go_region_held3 (fun w' : World => w'.cell? ⟨w1.heap.size, 0, none⟩ = some (Value.slice PA s.parts.length PC) ∧ w'.cell? ⟨w1.heap.size, 1, none⟩ = some (Value.int .i64 (s.long : Int)) ∧ w'.cell? ⟨w2.heap.size, 0, none⟩ = some (Value.slice QA b.parts.length QC) ∧ w'.cell? ⟨w2.heap.size, 1, none⟩ = some (Value.int .i64 (b.long : Int)) ∧ Below wx.heap.size wx w')
          (first | assumption | exact hqS | exact ⟨q0, q1, q2, q3, (Below.refl _ _).drew⟩ | go_keep)
          (first
          | (go_at_call 17; refine (place_nat a1 s.long _ ha1 ha2 h1s h2s).mono ?_; rintro e w' ⟨he, rfl⟩; rw [HI.out] at he; subst he)
          | (go_at_call_of 24 (Value.slice QA b.parts.length QC); refine (inS (S := (fun w' : World => w'.cell? ⟨w1.heap.size, 0, none⟩ = some (Value.slice PA s.parts.length PC) ∧ w'.cell? ⟨w1.heap.size, 1, none⟩ = some (Value.int .i64 (s.long : Int)) ∧ w'.cell? ⟨w2.heap.size, 0, none⟩ = some (Value.slice QA b.parts.length QC) ∧ w'.cell? ⟨w2.heap.size, 1, none⟩ = some (Value.int .i64 (b.long : Int)) ∧ Below wx.heap.size wx w')) (at_is b QA QC i _ x _ HX.out (hpbS _ (by assumption)) HWB.out hib hlb) (by assumption) hkeep).mono ?_; rintro e w' ⟨rfl, hqS⟩)
          | (go_at_call_of 24 (Value.slice PA s.parts.length PC); refine (inS (S := (fun w' : World => w'.cell? ⟨w1.heap.size, 0, none⟩ = some (Value.slice PA s.parts.length PC) ∧ w'.cell? ⟨w1.heap.size, 1, none⟩ = some (Value.int .i64 (s.long : Int)) ∧ w'.cell? ⟨w2.heap.size, 0, none⟩ = some (Value.slice QA b.parts.length QC) ∧ w'.cell? ⟨w2.heap.size, 1, none⟩ = some (Value.int .i64 (b.long : Int)) ∧ Below wx.heap.size wx w')) (at_is s PA PC i _ x _ HX2.out (hpsS _ (by assumption)) HW.out his hlong) (by assumption) hkeep).mono ?_; rintro e w' ⟨rfl, hqS⟩))
        all_goals
          go_wp2
          go_ret
          refine ⟨rfl, hfin _ ?_⟩
          assumption
end Go.Proofs.Ytnkkpdpjkfjmnaa.fnBitAt
