/-
  The contracts of Writer.lit, Repeat, ZeroUntil, Ptr, End and Init.
-/
import Derived.Test.YtnkkpdpjkfjmnaaWFlush
import Derived.Deep.DeepCutAuto
import Derived.BigRegion
namespace Go.Proofs.Ytnkkpdpjkfjmnaa
open Go.RowKit
set_option linter.unusedVariables false

theorem CsOk.lit {cs : Array Value} {go index : Nat} {pend : List Bool} {x : Bool} (h : CsOk cs go pend index) (hp : pend.length < 127) :
    CsOk (((cs.setIfInBounds (2 + pend.length) (.int .u8 ((Pu.b2n x : Nat) : Int))).setIfInBounds 129 (.int .i64 ((pend.length + 1 : Nat) : Int))).setIfInBounds 1 (.int .i64 ((index + 1 : Nat) : Int))) go (pend ++ [x]) (index + 1) := by
  have hs := h.size
  refine ⟨by simpa using hs, ?_, ?_, fun j hj => ?_, fun j hj => ?_, ?_, by simp; omega⟩
  · rw [Array.getElem?_setIfInBounds_ne (by omega), Array.getElem?_setIfInBounds_ne (by omega), Array.getElem?_setIfInBounds_ne (by omega)]; exact h.fn
  · rw [Array.getElem?_setIfInBounds_self_of_lt (by simp; omega)]
  · rw [Array.getElem?_setIfInBounds_ne (by omega), Array.getElem?_setIfInBounds_ne (by omega)]
    by_cases e : j = pend.length
    · subst e
      rw [Array.getElem?_setIfInBounds_self_of_lt (by omega)]
      exact ⟨_, rfl⟩
    · rw [Array.getElem?_setIfInBounds_ne (by omega)]; exact h.byte j hj
  · simp only [List.length_append, List.length_cons, List.length_nil] at hj
    rw [Array.getElem?_setIfInBounds_ne (by omega), Array.getElem?_setIfInBounds_ne (by omega)]
    by_cases e : j = pend.length
    · subst e
      rw [Array.getElem?_setIfInBounds_self_of_lt (by omega)]
      simp [List.getD]
    · rw [Array.getElem?_setIfInBounds_ne (by omega), h.bits j (by omega)]
      simp [List.getD, List.getElem?_append_left (show j < pend.length from by omega)]
  · rw [Array.getElem?_setIfInBounds_ne (by omega), Array.getElem?_setIfInBounds_self_of_lt (by simp; omega)]
    simp

set_option maxRecDepth 100000 in
set_option maxHeartbeats 1000000 in
theorem lit_any (gw go B : Nat) (W : Pu.Wr) (x : Bool) (y : Int) (w : World) (hy : y = ((Pu.b2n x : Nat) : Int)) (hBw : B ≤ gw) (hBo : B ≤ go) (h : WrAt w gw go B W) (hn : W.out.length + 200 < 70368744177664) (hi : W.index < 4611686018427387904) :
    Calls Try.prog 44 #[.pointer (some ⟨gw, 0, none⟩), .int .u8 y] w fun e w' => e = .returned (.tuple #[]) ∧ WrAt w' gw go B (W.lit x) ∧ Below B w w' := by
  have h0 := h
  obtain ⟨cs, hblk, hcs, hout⟩ := h0
  have hpl := hcs.pend
  have c129 : w.cell? ⟨gw, 129, none⟩ = some (.int .i64 (W.pend.length : Int)) := (hblk.cell 129).trans hcs.nb
  have HY := Lib.hid hy
  clear hy
  go_enter Try.func44, Try.ntmps44
  go_upto_if 8 with (fail)
  go_cut [9] (fun _ wx => ∃ V : Pu.Wr, WrAt wx gw go B V ∧ V.pend.length < 127 ∧ V.index < 4611686018427387904 ∧ Below B w wx ∧ Hid (W.lit x = ⟨V.out, V.pend ++ [x], V.index + 1⟩))
  case first =>
    by_cases h127 : W.pend.length = 127
    · have hz : ((W.pend.length : Int) == 127) = true := beq_iff_eq.2 (by omega)
      have H127 := Lib.hid h127
      clear h127
      go_wp2_with fail
      refine (flush_any gw go B W w hBw hBo h (by omega)).mono ?_
      rintro e w1 ⟨rfl, h1, hb1⟩
      go_wp2_with fail
      go_meet
      have hp0 : W.flush.pend = [] := by
        unfold Pu.Wr.flush
        rw [if_neg (by have := H127.out; omega)]
      exact ⟨W.flush, h1, by rw [hp0]; simp, by rw [Pu.flush_index]; exact hi, hb1, by unfold Hid Pu.Wr.lit; rw [if_pos H127.out]⟩
    · have hz : ((W.pend.length : Int) == 127) = false := beq_eq_false_iff_ne.2 (by omega)
      have H127 := Lib.hid h127
      clear h127
      go_wp2_with fail
      go_meet
      exact ⟨W, h, by have := H127.out; omega, hi, Below.refl _ _, by unfold Hid Pu.Wr.lit; rw [if_neg H127.out]⟩
  case rest =>
    obtain ⟨V, ⟨cs2, hb2, hcs2, ho2⟩, hp2, hi2, hbel2, HE⟩ := hcut
    obtain ⟨z, hz⟩ := hcs2.byte V.pend.length hp2
    have d129 : wc.cell? ⟨gw, 129, none⟩ = some (.int .i64 (V.pend.length : Int)) := (hb2.cell 129).trans hcs2.nb
    have dold : wc.cell? ⟨gw, 2 + V.pend.length, none⟩ = some (.int .u8 (z : Int)) := (hb2.cell _).trans hz
    have fold := hb2.frozen (2 + V.pend.length)
    have HB2 := Lib.hid (hb2.set_ (2 + V.pend.length) (.int .u8 y))
    have HO2 := Lib.hid (ho2.far hb2 (by decide) (by decide) (2 + V.pend.length) (.int .u8 y))
    have HL2 := Lib.hid (hbel2.setCell (p := ⟨gw, 2 + V.pend.length, none⟩) hBw (.int .u8 y))
    have d1 : wc.cell? ⟨gw, 1, none⟩ = some (.int .i64 (V.index : Int)) := (hb2.cell 1).trans hcs2.index
    have f129 := hb2.frozen 129
    have f1 := hb2.frozen 1
    clear hz c129 hblk h hb2 ho2
    go_wp2
    go_region
    all_goals
      go_wp2
      go_end0
      have hy := HY.out
      subst hy
      have e1 : ((V.pend.length : Int) + 1) = ((V.pend.length + 1 : Nat) : Int) := by omega
      have e2 : ((V.index : Int) + 1) = ((V.index + 1 : Nat) : Int) := by omega
      rw [HE.out, e1, e2]
      exact ⟨rfl, ⟨_, ((HB2.out.set_ 129 _).set_ 1 _), hcs2.lit hp2, ((HO2.out).far HB2.out (by decide) (by decide) 129 _).far (HB2.out.set_ 129 _) (by decide) (by decide) 1 _⟩, ((HL2.out.setCell hBw _).setCell hBw _).drew⟩

theorem CsOk.moved {cs : Array Value} {go index : Nat} {pend : List Bool} (h : CsOk cs go pend index) (i : Nat) : CsOk (cs.setIfInBounds 1 (.int .i64 (i : Int))) go pend i := by
  have hs := h.size
  refine ⟨by simpa using hs, ?_, ?_, fun j hj => ?_, fun j hj => ?_, ?_, h.pend⟩
  · rw [Array.getElem?_setIfInBounds_ne (by omega)]; exact h.fn
  · rw [Array.getElem?_setIfInBounds_self_of_lt (by omega)]
  · rw [Array.getElem?_setIfInBounds_ne (by omega)]; exact h.byte j hj
  · rw [Array.getElem?_setIfInBounds_ne (by omega)]; exact h.bits j hj
  · rw [Array.getElem?_setIfInBounds_ne (by omega)]; exact h.nb

set_option maxRecDepth 100000 in
set_option maxHeartbeats 1000000 in
theorem rep_any (gw go B : Nat) (W : Pu.Wr) (n c : Nat) (w : World) (hBw : B ≤ gw) (hBo : B ≤ go) (h : WrAt w gw go B W) (hn : W.phi + 300 < 70368744177664) (hn1 : n < 4611686018427387904) (hc1 : c < 4611686018427387904) (hi : W.index + n * c < 4611686018427387904) :
    Calls Try.prog 41 #[.pointer (some ⟨gw, 0, none⟩), .int .i64 n, .int .i64 c] w fun e w' => e = .returned (.tuple #[]) ∧ WrAt w' gw go B (W.rep n c) ∧ Below B w w' := by
  have hphi := Pu.flush_phi W
  unfold Pu.Wr.phi at hn hphi
  have hnc : (0 : Int) ≤ (n : Int) * (c : Int) := Int.mul_nonneg (by omega) (by omega)
  have hnc2 : (n : Int) * (c : Int) = ((n * c : Nat) : Int) := (Int.natCast_mul n c).symm
  have hnc3 : (n : Int) * (c : Int) < 4611686018427387904 - (W.index : Int) := by omega
  have HNC := Lib.hid hnc2
  clear hnc2
  by_cases h0 : n = 0
  · have hz : ((n : Int) == 0) = true := beq_iff_eq.2 (by omega)
    have H0 := Lib.hid h0
    clear h0
    go_enter Try.func41, Try.ntmps41
    go_wp2
    refine bodyPost_ret (results_none rfl _ _ _) rfl ?_
    exact ⟨rfl, by unfold Pu.Wr.rep; rw [if_pos (.inl H0.out)]; exact h, Below.refl _ _⟩
  · have hz : ((n : Int) == 0) = false := beq_eq_false_iff_ne.2 (by omega)
    have H0 := Lib.hid h0
    clear h0
    by_cases hc0 : c = 0
    · have hz2 : ((c : Int) == 0) = true := beq_iff_eq.2 (by omega)
      have HC0 := Lib.hid hc0
      clear hc0
      go_enter Try.func41, Try.ntmps41
      go_wp2
      refine bodyPost_ret (results_none rfl _ _ _) rfl ?_
      exact ⟨rfl, by unfold Pu.Wr.rep; rw [if_pos (.inr HC0.out)]; exact h, Below.refl _ _⟩
    · have hz2 : ((c : Int) == 0) = false := beq_eq_false_iff_ne.2 (by omega)
      have HC0 := Lib.hid hc0
      clear hc0
      have hcl := Pu.codeOf_len hn1
      go_enter Try.func41, Try.ntmps41
      go_wp2_with fail
      refine (flush_any gw go B W w hBw hBo h (by omega)).mono ?_
      rintro e w1 ⟨rfl, ⟨cs, hb1, hcs1, ho1⟩, hbel1⟩
      go_upto_if 15 with (fail)
      go_cut [20] (fun _ wx => Me.Blk wx gw 70 cs ∧ OutAt wx go B (W.flush.out ++ Pu.codeOf n) ∧ Below B w wx)
      case first =>
        by_cases hlt : n < 128
        · have HE := Lib.hid (show bits BinOp.or IntKind.u8 128 (n : Int) = ((128 + n : Nat) : Int) by
            have h := Bi.code_byte n hlt
            rw [show (n : Int) % 256 = (n : Int) from by omega] at h
            exact h)
          have HC := Lib.hid (show Pu.codeOf n = [128 + n] by unfold Pu.codeOf; rw [if_pos hlt])
          go_wp2_with fail
          rw [HE.out]
          refine (byte_any gw go B cs W.flush.out (128 + n) _ hBo hb1 hcs1.fn ho1 (by omega)).mono ?_
          rintro e w2 ⟨rfl, hb2, ho2, hbel2⟩
          go_wp2_with fail
          go_meet
          exact ⟨hb2, by rw [HC.out]; exact ho2, hbel1.trans hbel2⟩
        · have HC := Lib.hid (show Pu.codeOf n = 128 :: Pu.enc n by unfold Pu.codeOf; rw [if_neg hlt])
          go_wp2_with fail
          refine (byte_any gw go B cs W.flush.out 128 _ hBo hb1 hcs1.fn ho1 (by omega)).mono ?_
          rintro e w2 ⟨rfl, hb2, ho2, hbel2⟩
          go_wp2_with fail
          refine (wvarint_any gw go B cs _ n _ hBo hb2 hcs1.fn ho2 (by simp; omega) hn1).mono ?_
          rintro e w3 ⟨rfl, hb3, ho3, hbel3⟩
          go_wp2_with fail
          go_meet
          exact ⟨hb3, by rw [HC.out]; simpa using ho3, (hbel1.trans hbel2).trans hbel3⟩
      case rest =>
        obtain ⟨hb2, ho2, hbel2⟩ := hcut
        go_wp2_with fail
        refine (wvarint_any gw go B cs _ c _ hBo hb2 hcs1.fn ho2 (by simp; omega) hc1).mono ?_
        rintro e w3 ⟨rfl, hb3, ho3, hbel3⟩
        have d1 : w3.cell? ⟨gw, 1, none⟩ = some (.int .i64 (W.flush.index : Int)) := (hb3.cell 1).trans hcs1.index
        have f1 := hb3.frozen 1
        rw [Pu.flush_index] at d1
        go_wp2
        go_end0
        have hN := HNC.out
        have e1 : ((W.index : Int) + (n : Int) * (c : Int)) = ((W.index + n * c : Nat) : Int) := by rw [hN]; omega
        rw [e1]
        refine ⟨rfl, ?_, (hbel2.trans hbel3).setCell hBw _⟩
        unfold Pu.Wr.rep
        rw [if_neg (by rintro (h | h); exact H0.out h; exact HC0.out h)]
        have hcs2 := hcs1.moved (W.index + n * c)
        rw [Pu.flush_pend] at hcs2
        exact ⟨_, hb3.set_ 1 _, hcs2, ho3.far hb3 (by decide) (by decide) 1 _⟩

theorem lits_index (W : Pu.Wr) (k : Nat) : (W.lits k).index = W.index + k := by
  induction k with
  | zero => rfl
  | succ k ih =>
    show ((W.lits k).lit false).index = _
    unfold Pu.Wr.lit
    split
    · show (W.lits k).flush.index + 1 = _
      rw [Pu.flush_index, ih]; omega
    · show (W.lits k).index + 1 = _
      rw [ih]; omega
theorem lit_index (W : Pu.Wr) (x : Bool) : (W.lit x).index = W.index + 1 := by
  unfold Pu.Wr.lit
  split
  · show W.flush.index + 1 = _
    rw [Pu.flush_index]
  · rfl
theorem WrAt.index {w : World} {gw go B : Nat} {W : Pu.Wr} (h : WrAt w gw go B W) : w.cell? ⟨gw, 1, none⟩ = some (.int .i64 (W.index : Int)) := by
  obtain ⟨cs, hb, hcs, _⟩ := h
  exact (hb.cell 1).trans hcs.index

set_option maxRecDepth 100000 in
set_option maxHeartbeats 1000000 in
theorem zero_any (gw go B : Nat) (W : Pu.Wr) (N : Nat) (w : World) (hBw : B ≤ gw) (hBo : B ≤ go) (h : WrAt w gw go B W) (hn : W.phi + 400 < 70368744177664) (hN : N < 2305843009213693952) (hle : W.index ≤ N) :
    Calls Try.prog 42 #[.pointer (some ⟨gw, 0, none⟩), .int .i64 N] w fun e w' => e = .returned (.tuple #[]) ∧ WrAt w' gw go B (W.zero N) ∧ Below B w w' := by
  have c1 := h.index
  by_cases h0 : N - W.index = 0
  · have hz : ((N : Int) - (W.index : Int) == 0) = true := beq_iff_eq.2 (by omega)
    have H0 := Lib.hid h0
    clear h0
    go_enter Try.func42, Try.ntmps42
    go_wp2
    refine bodyPost_ret (results_none rfl _ _ _) rfl ?_
    exact ⟨rfl, by unfold Pu.Wr.zero; rw [if_pos H0.out]; exact h, Below.refl _ _⟩
  · have hz : ((N : Int) - (W.index : Int) == 0) = false := beq_eq_false_iff_ne.2 (by omega)
    have H0 := Lib.hid h0
    clear h0
    obtain ⟨k, hk⟩ : ∃ k, N - W.index = k := ⟨_, rfl⟩
    have hk0 := H0.out
    have ek : (N : Int) - (W.index : Int) = (k : Int) := by omega
    have HK := Lib.hid hk
    by_cases h32 : k < 32
    · have hkp : 0 < k := by omega
      have hNW : decide (N < W.index) = false := by simp; omega
      have hlt : decide ((k : Int) < 32) = true := by simp; omega
      have hzk : ((k : Int) == 0) = false := beq_eq_false_iff_ne.2 (by omega)
      clear hk hk0
      go_enter Try.func42, Try.ntmps42
      go_wp2
      go_loopw [5] (fun s wr => ∃ j : Nat, s = .int .i64 j ∧ j ≤ k ∧ WrAt wr gw go B (W.lits j) ∧ Below B w wr)
        (fun s _ => k - (intOf s).toNat)
      case atStart => exact ⟨0, rfl, Nat.zero_le _, h, Below.refl _ _⟩
      case round =>
        obtain ⟨j, rfl, hj, hw, hbel⟩ := hrel
        by_cases hjk : j < k
        · have hph := Pu.lits_phi W j
          unfold Pu.Wr.phi at hph hn
          have hix := Lib.hid (lits_index W j)
          go_wp2_with fail
          refine (lit_any gw go B (W.lits j) false 0 wr rfl hBw hBo hw (by omega) (by have := hix.out; omega)).mono ?_
          rintro e w1 ⟨rfl, h1, hb1⟩
          go_wp2
          go_roundw
          case rel => exact ⟨j + 1, by go_num, by omega, h1, hbel.trans hb1⟩
          case measure => simp [intOf]; omega
        · obtain rfl : j = k := by omega
          go_wp2
          refine bodyPost_ret (results_none rfl _ _ _) rfl ?_
          refine ⟨rfl, ?_, hbel⟩
          have hk := HK.out
          unfold Pu.Wr.zero
          rw [hk, if_neg (by omega), if_pos h32]
          exact hw
    · have hlt : decide ((k : Int) < 32) = false := by simp; omega
      have hzk : ((k : Int) == 0) = false := beq_eq_false_iff_ne.2 (by omega)
      have hkN : k ≤ N := by omega
      have hlp := Pu.lit_phi W false
      have hfp := Pu.flush_phi (W.lit false)
      have hlo : (W.lit false).out.length ≤ (W.lit false).phi := by unfold Pu.Wr.phi; omega
      have hwo : W.out.length ≤ W.phi := by unfold Pu.Wr.phi; omega
      have hix := Lib.hid (lit_index W false)
      have hix2 := Lib.hid (Pu.flush_index (W.lit false))
      clear hk hk0
      go_enter Try.func42, Try.ntmps42
      go_wp2_with fail
      refine (lit_any gw go B W false 0 w rfl hBw hBo h (by omega) (by omega)).mono ?_
      rintro e w1 ⟨rfl, h1, hb1⟩
      go_wp2_with fail
      refine (flush_any gw go B (W.lit false) w1 hBw hBo h1 (by omega)).mono ?_
      rintro e w2 ⟨rfl, h2, hb2⟩
      go_wp2_with fail
      have ek1 : ((k : Int) - 1) = ((k - 1 : Nat) : Int) := by omega
      rw [ek1]
      refine (rep_any gw go B (W.lit false).flush 1 (k - 1) w2 hBw hBo h2 (by omega) (by omega) (by omega) (by have := hix.out; have := hix2.out; omega)).mono ?_
      rintro e w3 ⟨rfl, h3, hb3⟩
      go_wp2
      go_end0
      refine ⟨rfl, ?_, (hb1.trans hb2).trans hb3⟩
      have hk := HK.out
      unfold Pu.Wr.zero
      rw [hk, if_neg (by omega), if_neg h32]
      exact h3

set_option maxHeartbeats 400000 in
theorem ptr_any (gw go B : Nat) (W : Pu.Wr) (N : Nat) (w : World) (hBw : B ≤ gw) (hBo : B ≤ go) (h : WrAt w gw go B W) (hn : W.phi + 700 < 70368744177664) (hN : N < 2305843009213693952) (hle : W.index ≤ N) (hix : (W.zero N).index < 4611686018427387904) :
    Calls Try.prog 40 #[.pointer (some ⟨gw, 0, none⟩), .int .i64 N] w fun e w' => e = .returned (.tuple #[]) ∧ WrAt w' gw go B (W.ptr N) ∧ Below B w w' := by
  have c1 := h.index
  have hz := Pu.zero_phi (w := W) (N := N) (by omega)
  have hlo : (W.zero N).out.length ≤ (W.zero N).phi := by unfold Pu.Wr.phi; omega
  go_enter Try.func40, Try.ntmps40
  go_wp2_with fail
  refine (zero_any gw go B W N w hBw hBo h (by omega) hN hle).mono ?_
  rintro e w1 ⟨rfl, h1, hb1⟩
  go_wp2_with fail
  refine (lit_any gw go B (W.zero N) true 1 w1 rfl hBw hBo h1 (by omega) hix).mono ?_
  rintro e w2 ⟨rfl, h2, hb2⟩
  go_wp2
  go_end0
  exact ⟨rfl, h2, hb1.trans hb2⟩

set_option maxHeartbeats 400000 in
theorem end_any (gw go B : Nat) (W : Pu.Wr) (w : World) (hBw : B ≤ gw) (hBo : B ≤ go) (h : WrAt w gw go B W) (hn : W.phi + 400 < 70368744177664) :
    Calls Try.prog 43 #[.pointer (some ⟨gw, 0, none⟩)] w fun e w' => e = .returned (.tuple #[]) ∧ OutAt w' go B (W.flush.out ++ [0]) ∧ Below B w w' := by
  have hfp := Pu.flush_phi W
  have hlo : W.flush.out.length ≤ W.flush.phi := by unfold Pu.Wr.phi; omega
  have hwo : W.out.length ≤ W.phi := by unfold Pu.Wr.phi; omega
  go_enter Try.func43, Try.ntmps43
  go_wp2_with fail
  refine (flush_any gw go B W w hBw hBo h (by omega)).mono ?_
  rintro e w1 ⟨rfl, ⟨cs, hb1, hcs1, ho1⟩, hbel1⟩
  go_wp2_with fail
  refine (byte_any gw go B cs W.flush.out 0 _ hBo hb1 hcs1.fn ho1 (by omega)).mono ?_
  rintro e w2 ⟨rfl, hb2, ho2, hbel2⟩
  go_wp2
  go_end0
  exact ⟨rfl, ho2, hbel1.trans hbel2⟩
end Go.Proofs.Ytnkkpdpjkfjmnaa
