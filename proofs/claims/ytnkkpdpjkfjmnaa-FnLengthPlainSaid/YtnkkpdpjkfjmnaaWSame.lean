/-
  The contracts of laws.read, laws.with and laws.same.
-/
import Derived.Test.YtnkkpdpjkfjmnaaWOf
import Derived.Test.YtnkkpdpjkfjmnaaWAt
import Derived.Deep.RegionWith
import Derived.BigRegion
import Derived.Deep.DeepCutAuto
namespace Go.Proofs.Ytnkkpdpjkfjmnaa
open Go.RowKit
set_option linter.unusedVariables false

/-- a value that is a sequence of bits -/
structure BitsV (w : World) (B : Nat) (v : Value) (b : Pu.Bs) : Prop where
  shape : ∃ PA PC, v = .agg #[.slice PA b.parts.length PC, .int .i64 (b.long : Int)] ∧ Me.PartsV w B (.slice PA b.parts.length PC) b.parts
  wf : Pu.Wf b
  max : b.long ≤ 1152921504606846976

theorem BitsV.below {w w' : World} {B : Nat} {v : Value} {b : Pu.Bs} (h : BitsV w B v b) (hb : Below w.heap.size w w') : BitsV w' B v b := by
  obtain ⟨⟨PA, PC, e, hp⟩, h2, h3⟩ := h
  exact ⟨⟨PA, PC, e, hp.below hb⟩, h2, h3⟩

set_option maxHeartbeats 1000000 in
theorem readlaw_any (A : Option Addr) (c : Nat) (l : List Pu.Op) (s : Pu.Bs) (w : World) (hc : l.length ≤ c) (hcm : c ≤ maxLen) (hlen : l.length < 8589934592) (hS : Me.Sl w w.heap.size A (opCells l)) (hl : Pu.ofL .empty l = some s) :
    Calls Try.prog 23 #[.slice A l.length c] w fun e w' => Below w.heap.size w w' ∧ ∃ b PA PC, e = .returned (.tuple #[.agg #[.slice PA b.parts.length PC, .int .i64 (b.long : Int)], .bool true]) ∧ Me.PartsV w' w.heap.size (.slice PA b.parts.length PC) b.parts ∧ Pu.Wf b ∧ Pu.Same b s ∧ b.long ≤ 1152921504606846976 := by
  have hpl := Pu.prog_len hl
  obtain ⟨b, hb1, hb2⟩ := Pu.prog_says hl
  have HB1 := Lib.hid hb1
  have HB2 := Lib.hid hb2
  have HL := Lib.hid hl
  have H8 := Lib.hid (Pu.prog_lt hl)
  clear hb1 hb2 hl
  go_enter Try.func23, Try.ntmps23
  go_wp2_with fail
  refine (iprog_any A c l s _ hc hcm hlen ?hS HL.out).mono ?_
  case hS => exact (hS.alloc (Nat.le_refl _) _).more (by simp)
  rintro e w1 ⟨PA, PC, rfl, h1, h2, h3, hbel1⟩
  have hr1 := (Me.Blk.new w 30 #[Value.slice none 0 0, Value.int IntKind.i64 0]).below hbel1 (by simp)
  go_wp2_with fail
  refine (read_any (Pu.prog l) PA PC w1 h1 h2 (by omega) H8.out h3).mono ?_
  rintro e w2 ⟨hbel2, hm⟩
  rw [HB1.out] at hm
  obtain ⟨QA, QC, rfl, hpv, hlong⟩ := hm
  have hr2 := hr1.below hbel2 hr1.lt
  have t0 : w2.cell? ⟨w.heap.size, 0, none⟩ = some (.slice none 0 0) := hr2.cell 0
  have t1 : w2.cell? ⟨w.heap.size, 1, none⟩ = some (.int .i64 0) := hr2.cell 1
  have p0 := hr2.frozen 0
  have p1 := hr2.frozen 1
  have hbel3 : Below w.heap.size w w2 := (((Below.refl _ _).alloc (Nat.le_refl _) _).trans (hbel1.mono (by simp))).trans (hbel2.mono (by have := hbel1.size; simp at this; omega))
  go_wp2
  refine bodyPost_ret (v := .tuple #[.agg #[.slice QA b.parts.length QC, .int .i64 (b.long : Int)], .bool true]) (by simp [results, Try.results23, go_sem, t0, t1]) rfl ?_
  refine ⟨(hbel3.setCell (p := ⟨w.heap.size, 0, none⟩) (Nat.le_refl _) _).setCell (p := ⟨w.heap.size, 1, none⟩) (Nat.le_refl _) _, b, QA, QC, rfl, ?_, Pu.rd_wf Pu.wf_empty HB1.out, HB2.out, hlong⟩
  obtain ⟨xs, ho, hx⟩ := (hpv.far hr2 (by decide) (by decide) 0 (.slice QA b.parts.length QC)).far (hr2.set_ 0 (.slice QA b.parts.length QC)) (by decide) (by decide) 1 (.int .i64 (b.long : Int))
  exact ⟨xs, ⟨ho.1, ho.2.imp id fun ⟨g, cap, cur, e1, e2, e3⟩ => ⟨g, cap, cur, e1, by have := hbel1.size; simp at this; omega, e3⟩⟩, hx⟩

theorem el45 : Me.Elem Try.prog 35 45 3 24 (.agg #[.int .i64 0, .int .i64 0, .int .i64 0]) := ⟨Try.underlying35, by kernel_rfl, rfl, by omega, by omega⟩

set_option maxHeartbeats 1000000 in
theorem with_any (A A2 : Option Addr) (n c n2 c2 : Nat) (l m : List Pu.Op) (w : World) (hn : l.length = n) (hn2 : m.length = n2) (h1 : n < 4294967296) (h2 : n2 < 4294967296) (hS : Me.Sl w w.heap.size A (opCells l)) (hS2 : Me.Sl w w.heap.size A2 (opCells m)) :
    Calls Try.prog 26 #[.slice A n c, .slice A2 n2 c2] w fun e w' => ∃ RA RC, e = .returned (.slice RA (l ++ m).length RC) ∧ (l ++ m).length ≤ RC ∧ RC ≤ maxLen ∧ Me.Sl w' w'.heap.size RA (opCells (l ++ m)) ∧ Below w.heap.size w w' := by
  subst hn hn2
  have hl1 := Lib.hid (opCells_length l)
  have hl2 := Lib.hid (opCells_length m)
  go_enter Try.func26, Try.ntmps26
  go_wp2_with (first
    | (at_builtin; refine Me.wpList_app_sl el45 rfl (World.ownsRow_nil w w.heap.size 45 3) hS (.const (.slice none 0 0)) (.tmp 5) rfl rfl rfl (by have := hl1.out; omega) (opCells_one l) (by omega) (Nat.le_refl _) ?_; intro v1 w1 hown1 hg1 _; have hb1 : Below w.heap.size w w1 := (Below.refl _ _).grown hg1 (Nat.le_refl _) (by simp [Value.ownBlock]))
    | (at_builtin; refine Me.wpList_app_sl el45 rfl hown1 (hS2.below hb1 (Nat.le_refl _)) (.tmp 6) (.tmp 7) rfl rfl rfl (by have := hl2.out; omega) (opCells_one m) (by omega) hb1.size ?_; intro v2 w2 hown2 hg2 _))
  go_ret
  obtain ⟨RA, RC, hv, g1, g2⟩ := Me.own_shape hown2
  rw [hv] at hown2
  have e : 0 + l.length + m.length = l.length + m.length := by omega
  refine ⟨RA, RC, congrArg Ending.returned (hv.trans (by rw [e])), by omega, g2, ?_, hb1.grown hg2 hb1.size (fun k hk => (hown1.lt k hk).1)⟩
  have h := Me.Sl.of_ownN hown2
  rw [opCells_append]
  simpa using h

/-- At, where the bit is known -/
theorem at_is (b : Pu.Bs) (A : Option Addr) (c i B : Nat) (x : Bool) (w : World) (hx : Pu.bit b i = x) (hp : Me.PartsV w B (.slice A b.parts.length c) b.parts) (hwf : Pu.Wf b) (hi : i < b.long) (hlong : b.long ≤ 1152921504606846976) :
    Calls Try.prog 24 #[.agg #[.slice A b.parts.length c, .int .i64 (b.long : Int)], .int .i64 i] w fun e w' => e = .returned (.bool x) ∧ Below w.heap.size w w' := by
  subst hx
  exact at_any b A c i B w hp hwf hi hlong

set_option maxRecDepth 100000 in
set_option maxHeartbeats 4000000 in
theorem same_any (a b : Pu.Bs) (PA QA : Option Addr) (PC QC B1 B2 : Nat) (w : World) (hpa : Me.PartsV w B1 (.slice PA a.parts.length PC) a.parts) (hpb : Me.PartsV w B2 (.slice QA b.parts.length QC) b.parts) (hwa : Pu.Wf a) (hwb : Pu.Wf b) (hla : a.long ≤ 1152921504606846976) (hlb : b.long ≤ 1152921504606846976) (hs : Pu.Same a b) :
    Calls Try.prog 27 #[.agg #[.slice PA a.parts.length PC, .int .i64 (a.long : Int)], .agg #[.slice QA b.parts.length QC, .int .i64 (b.long : Int)]] w fun e w' => e = .returned (.bool true) ∧ Below w.heap.size w w' := by
  have HS := Lib.hid hs
  have hne : ((a.long : Int) != (b.long : Int)) = false := by rw [bne_eq_false_iff_eq, hs.1]
  have HA := Lib.hid hwa
  have HB := Lib.hid hwb
  clear hs hwa hwb
  go_enter Try.func27, Try.ntmps27
  go_upto_region 3 with (fail)
  go_cut [13, 14] (fun s13 s14 wx => ∃ M : Nat, s13 = .int .i64 (M : Int) ∧ s14 = .int .i64 0 ∧ M ≤ a.long ∧ Me.Blk wx w.heap.size 30 #[.slice PA a.parts.length PC, .int .i64 (a.long : Int)] ∧ Me.Blk wx (w.heap.size + 1) 30 #[.slice QA b.parts.length QC, .int .i64 (b.long : Int)] ∧ Below w.heap.size w wx)
  case first =>
    have hA := (Me.Blk.new w 30 #[Value.slice PA a.parts.length PC, Value.int IntKind.i64 ↑a.long]).alloc (Obj.cells #[Value.slice QA b.parts.length QC, Value.int IntKind.i64 ↑b.long] 30)
    have hB := Me.Blk.new (w.alloc (Obj.cells #[Value.slice PA a.parts.length PC, Value.int IntKind.i64 ↑a.long] 30)) 30 #[Value.slice QA b.parts.length QC, Value.int IntKind.i64 ↑b.long]
    rw [World.size_alloc] at hB
    have hbel : Below w.heap.size w ((w.alloc (Obj.cells #[Value.slice PA a.parts.length PC, Value.int IntKind.i64 ↑a.long] 30)).alloc (Obj.cells #[Value.slice QA b.parts.length QC, Value.int IntKind.i64 ↑b.long] 30)) := ((Below.refl _ _).alloc (Nat.le_refl _) _).alloc (by simp) _
    by_cases hbig : a.long ≤ 1048576
    · go_wp2_with fail
      go_meet
      exact ⟨a.long, rfl, rfl, Nat.le_refl _, hA, hB, hbel⟩
    · go_wp2_with fail
      go_meet
      exact ⟨1048576, rfl, rfl, by omega, hA, hB, hbel⟩
  case rest =>
    obtain ⟨M, rfl, rfl, hM, hA0, hB0, hbel0⟩ := hcut
    go_wp2
    go_loopw [14] (fun k wr => ∃ j : Nat, k = .int .i64 j ∧ j ≤ M ∧ Me.Blk wr w.heap.size 30 #[.slice PA a.parts.length PC, .int .i64 (a.long : Int)] ∧ Me.Blk wr (w.heap.size + 1) 30 #[.slice QA b.parts.length QC, .int .i64 (b.long : Int)] ∧ Below w.heap.size w wr)
      (fun k _ => M - (intOf k).toNat)
    case atStart => exact ⟨0, rfl, Nat.zero_le _, hA0, hB0, hbel0⟩
    case round =>
      obtain ⟨j, rfl, hj, hA1, hB1, hbel⟩ := hrel
      by_cases hlt : j < M
      · have hja : j < a.long := by omega
        have hjb : j < b.long := by have := HS.out.1; omega
        obtain ⟨x, hx⟩ : ∃ x, Pu.bit a j = x := ⟨_, rfl⟩
        have HX := Lib.hid hx
        have HX2 := Lib.hid ((HS.out.2 j hja).symm.trans hx)
        have hpa1 := hpa.below hbel
        have hpb1 := hpb.below hbel
        have q0 : wr.cell? ⟨w.heap.size, 0, none⟩ = some (.slice PA a.parts.length PC) := hA1.cell 0
        have q1 : wr.cell? ⟨w.heap.size, 1, none⟩ = some (.int .i64 (a.long : Int)) := hA1.cell 1
        have q2 : wr.cell? ⟨w.heap.size + 1, 0, none⟩ = some (.slice QA b.parts.length QC) := hB1.cell 0
        have q3 : wr.cell? ⟨w.heap.size + 1, 1, none⟩ = some (.int .i64 (b.long : Int)) := hB1.cell 1
        have hl1 := hA1.lt
        have hl2 := hB1.lt
        have HA1 := Lib.hid hA1
        have HB1 := Lib.hid hB1
        clear hx hA0 hB0 hA1 hB1
        go_wp2
        go_region_with (first
          | (go_at_call_of 24 (Value.slice PA a.parts.length PC); refine (at_is a PA PC j B1 x _ HX.out (by exact hpa1) HA.out hja hla).mono ?_; rintro e w2 ⟨rfl, hq1⟩; have z2 : w2.cell? ⟨w.heap.size + 1, 0, none⟩ = some (.slice QA b.parts.length QC) := (hq1.cell (p := ⟨w.heap.size + 1, 0, none⟩) hl2).trans q2; have z3 : w2.cell? ⟨w.heap.size + 1, 1, none⟩ = some (.int .i64 (b.long : Int)) := (hq1.cell (p := ⟨w.heap.size + 1, 1, none⟩) hl2).trans q3)
          | (go_at_call_of 24 (Value.slice QA b.parts.length QC); refine (at_is b QA QC j B2 x _ HX2.out (by exact Me.PartsV.below (by exact hpb1) hq1) HB.out hjb hlb).mono ?_; rintro e w3 ⟨rfl, hq2⟩))
        all_goals
          go_wp2
          go_roundw
          case rel =>
            have hq3 : Below wr.heap.size wr w2 := ⟨hq1.os, hq1.tape, hq1.output, hq1.size, hq1.block⟩
            have hA3 := HA1.out.below hq3 hl1
            have hB3 := HB1.out.below hq3 hl2
            exact ⟨j + 1, by go_num, by omega, hA3.below hq2 hA3.lt, hB3.below hq2 hB3.lt, (hbel.trans (hq3.mono hbel.size)).trans (hq2.mono (Nat.le_trans hbel.size hq3.size))⟩
          case measure => simp [intOf]; omega
      · go_wp2
        go_ret
        exact ⟨rfl, hbel⟩
end Go.Proofs.Ytnkkpdpjkfjmnaa
