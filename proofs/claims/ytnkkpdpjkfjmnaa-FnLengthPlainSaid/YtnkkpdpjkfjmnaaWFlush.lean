/-
  The contracts of Writer.varint and Writer.flushlit.
-/
import Derived.Test.YtnkkpdpjkfjmnaaWByte
namespace Go.Proofs.Ytnkkpdpjkfjmnaa
open Go.RowKit
set_option linter.unusedVariables false

set_option maxRecDepth 100000 in
set_option maxHeartbeats 800000 in
theorem wvarint_any (gw go B : Nat) (cs : Array Value) (out : List Nat) (x : Nat) (w : World) (hBo : B ≤ go) (hblk : Me.Blk w gw 70 cs) (h0 : cs[0]? = some (keeper go)) (hout : OutAt w go B out) (hn : out.length + 20 < 70368744177664) (hx : x < 4611686018427387904) :
    Calls Try.prog 47 #[.pointer (some ⟨gw, 0, none⟩), .int .i64 x] w fun e w' => e = .returned (.tuple #[]) ∧ Me.Blk w' gw 70 cs ∧ OutAt w' go B (out ++ Pu.enc x) ∧ Below B w w' := by
  have hlen : (Pu.enc x).length ≤ 9 := Pu.enc_len 8 x (by simpa using (by omega : x < 9223372036854775808))
  have H0 := Lib.hid h0
  clear h0
  go_enter Try.func47, Try.ntmps47
  go_wp2
  go_loopw [1] (fun s wr => ∃ (m : Nat) (out1 : List Nat), s = .int .i64 m ∧ m ≤ x ∧ Me.Blk wr gw 70 cs ∧ OutAt wr go B out1 ∧ Below B w wr ∧ Hid (out1 ++ Pu.enc m = out ++ Pu.enc x))
    (fun s _ => (intOf s).toNat)
  case atStart => exact ⟨x, out, rfl, Nat.le_refl _, hblk, hout, Below.refl _ _, rfl⟩
  case round =>
    obtain ⟨m, out1, rfl, hm, hblk1, hout1, hbel, HE⟩ := hrel
    have hol : out1.length ≤ out.length + 9 := by have h := congrArg List.length HE.out; simp at h; omega
    by_cases hlt : 127 < m
    · have he := Bi.enc_byte' m (by omega)
      go_wp2_with (go_at_call 46; refine (byte_any gw go B cs out1 (m % 128 + 128) _ hBo hblk1 H0.out hout1 (by omega)).mono ?_; rintro e w1 ⟨rfl, hb1, ho1, hbel1⟩)
      go_roundw
      case rel =>
        refine ⟨m / 128, out1 ++ [m % 128 + 128], by go_num, by omega, hb1, ho1, hbel.trans hbel1, ?_⟩
        have h := HE.out
        rw [Pu.enc_big hlt] at h
        unfold Hid
        rw [← h]
        simp
      case measure => simp [intOf]; omega
    · go_wp2_with (go_at_call 46; refine (byte_any gw go B cs out1 m _ hBo hblk1 H0.out hout1 (by omega)).mono ?_; rintro e w1 ⟨rfl, hb1, ho1, hbel1⟩)
      go_end0
      have h := HE.out
      rw [Pu.enc_small hlt] at h
      exact ⟨rfl, hb1, by rw [← h]; exact ho1, hbel.trans hbel1⟩

/-- the cells of a writer -/
structure CsOk (cs : Array Value) (go : Nat) (pend : List Bool) (index : Nat) : Prop where
  size : cs.size = 130
  fn : cs[0]? = some (keeper go)
  index : cs[1]? = some (.int .i64 (index : Int))
  byte : ∀ j, j < 127 → ∃ x : Nat, cs[2 + j]? = some (.int .u8 (x : Int))
  bits : ∀ j, j < pend.length → cs[2 + j]? = some (.int .u8 ((Pu.b2n (pend.getD j false) : Nat) : Int))
  nb : cs[129]? = some (.int .i64 (pend.length : Int))
  pend : pend.length ≤ 127

/-- a writer in memory -/
def WrAt (w : World) (gw go B : Nat) (W : Pu.Wr) : Prop := ∃ cs, Me.Blk w gw 70 cs ∧ CsOk cs go W.pend W.index ∧ OutAt w go B W.out

theorem CsOk.cleared {cs : Array Value} {go index : Nat} {pend : List Bool} (h : CsOk cs go pend index) : CsOk (cs.setIfInBounds 129 (.int .i64 0)) go [] index := by
  have hs := h.size
  refine ⟨by simpa using hs, ?_, ?_, fun j hj => ?_, fun j hj => by simp at hj, ?_, by simp⟩
  · rw [Array.getElem?_setIfInBounds_ne (by omega)]; exact h.fn
  · rw [Array.getElem?_setIfInBounds_ne (by omega)]; exact h.index
  · rw [Array.getElem?_setIfInBounds_ne (by omega)]; exact h.byte j hj
  · rw [Array.getElem?_setIfInBounds_self_of_lt (by omega)]; rfl

theorem flush_done {wr : World} {gw go B index : Nat} {cs : Array Value} {out : List Nat} {pend : List Bool} (hb : Me.Blk wr gw 70 cs) (hcs : CsOk cs go pend index) (hp : ¬ pend.length = 0) (ho : OutAt wr go B (out ++ pend.length :: Pu.pack pend)) :
    WrAt (wr.setCell ⟨gw, 129, none⟩ (.int .i64 0)) gw go B (Pu.Wr.flush ⟨out, pend, index⟩) := by
  unfold Pu.Wr.flush
  rw [if_neg hp]
  exact ⟨_, hb.set_ 129 _, hcs.cleared, ho.far hb (by decide) (by decide) 129 _⟩

theorem b2n_le (b : Bool) : Pu.b2n b ≤ 1 := by unfold Pu.b2n; split <;> omega

set_option maxRecDepth 100000 in
set_option maxHeartbeats 2000000 in
theorem flush_any (gw go B : Nat) (W : Pu.Wr) (w : World) (hBw : B ≤ gw) (hBo : B ≤ go) (h : WrAt w gw go B W) (hn : W.out.length + 100 < 70368744177664) :
    Calls Try.prog 45 #[.pointer (some ⟨gw, 0, none⟩)] w fun e w' => e = .returned (.tuple #[]) ∧ WrAt w' gw go B W.flush ∧ Below B w w' := by
  obtain ⟨out, pend, index⟩ := W
  obtain ⟨cs, hblk, hcs, hout⟩ := h
  simp only at hcs hout hn
  have hpl := hcs.pend
  have c129 : w.cell? ⟨gw, 129, none⟩ = some (.int .i64 (pend.length : Int)) := (hblk.cell 129).trans hcs.nb
  by_cases h0 : pend.length = 0
  · have hz : ((pend.length : Int) == 0) = true := beq_iff_eq.2 (by omega)
    have H0 := Lib.hid h0
    clear h0
    go_enter Try.func45, Try.ntmps45
    go_wp2
    refine bodyPost_ret (results_none rfl _ _ _) rfl ?_
    refine ⟨rfl, ?_, Below.refl _ _⟩
    unfold Pu.Wr.flush
    rw [if_pos H0.out]
    exact ⟨cs, hblk, hcs, hout⟩
  · have hz : ((pend.length : Int) == 0) = false := beq_eq_false_iff_ne.2 (by omega)
    have H0 := Lib.hid h0
    have hp1 : 1 ≤ pend.length := by omega
    clear h0
    go_enter Try.func45, Try.ntmps45
    go_wp2_with (go_at_call 46; refine (byte_any gw go B cs out pend.length _ hBo hblk hcs.fn hout (by omega)).mono ?_; rintro e w1 ⟨rfl, hb1, ho1, hbel1⟩)
    go_loopw [2, 3] (fun s k wr => ∃ i : Nat, k = .int .i64 i ∧ i ≤ pend.length ∧ s = .int .u8 ((Pu.part pend i : Nat) : Int) ∧ Me.Blk wr gw 70 cs ∧ OutAt wr go B (out ++ pend.length :: (List.range (i / 8)).map (Pu.byteAt pend)) ∧ Below B w wr)
      (fun _ k _ => pend.length - (intOf k).toNat)
    case atStart => exact ⟨0, rfl, Nat.zero_le _, by simp [Pu.part, Pu.bitsNum], hb1, by simpa using ho1, hbel1⟩
    case round =>
      obtain ⟨i, rfl, hi, rfl, hbr, hor, hbelr⟩ := hrel
      have d129 : wr.cell? ⟨gw, 129, none⟩ = some (.int .i64 (pend.length : Int)) := (hbr.cell 129).trans hcs.nb
      by_cases hlt : i < pend.length
      · have dbit : wr.cell? ⟨gw, 2 + i, none⟩ = some (.int .u8 ((Pu.b2n (pend.getD i false) : Nat) : Int)) := (hbr.cell (2 + i)).trans (hcs.bits i hlt)
        have hb2 := b2n_le (pend.getD i false)
        have HOr := Lib.hid (Bi.or_bit (Pu.part pend i) (Pu.b2n (pend.getD i false)) (i % 8) (Pu.part_lt pend i) hb2 (by omega))
        have HF := Lib.hid (Pu.part_full (l := pend) (i := i) hlt)
        have HM := Lib.hid (Pu.part_more (l := pend) (i := i) hlt)
        generalize Pu.b2n (pend.getD i false) = y at dbit hb2 HOr HF HM
        by_cases h7 : (i + 1) % 8 = 0
        · have hz7 : (((i : Int) + 1) % 8 == 0) = true := beq_iff_eq.2 (by omega)
          obtain ⟨f1, f2, f3⟩ := HF.out h7
          have HE := Lib.hid (HOr.out.trans (congrArg (fun n : Nat => (n : Int)) f1))
          have H2 := Lib.hid f2
          have H3 := Lib.hid f3
          have H7 := Lib.hid h7
          clear f1 f2 f3 h7
          go_wp2_with fail
          rw [HE.out]
          refine (byte_any gw go B cs _ (Pu.byteAt pend (i / 8)) _ hBo hbr hcs.fn hor (by simp; omega)).mono ?_
          rintro e w2 ⟨rfl, hb3, ho3, hbel3⟩
          go_wp2
          go_roundw
          case rel =>
            refine ⟨i + 1, by go_num, by omega, ?_, hb3, ?_, hbelr.trans hbel3⟩
            · rw [H2.out]; rfl
            · rw [H3.out, List.range_succ]
              simpa using ho3
          case measure => simp [intOf]; omega
        · have hz7 : (((i : Int) + 1) % 8 == 0) = false := beq_eq_false_iff_ne.2 (by omega)
          obtain ⟨f1, f3⟩ := HM.out h7
          have HE := Lib.hid (HOr.out.trans (congrArg (fun n : Nat => (n : Int)) f1))
          have H3 := Lib.hid f3
          have H7 := Lib.hid h7
          clear f1 f3 h7
          go_wp2
          go_roundw
          case rel => exact ⟨i + 1, by go_num, by omega, int_eq HE.out, hbr, by rw [H3.out]; exact hor, hbelr⟩
          case measure => simp [intOf]; omega
      · obtain rfl : i = pend.length := by omega
        have hf129 := hbr.frozen 129
        by_cases h8 : pend.length % 8 = 0
        · have hz8 : ((pend.length : Int) % 8 == 0) = true := beq_iff_eq.2 (by omega)
          have H8 := Lib.hid h8
          clear h8
          go_wp2
          go_end0
          refine ⟨rfl, flush_done hbr hcs H0.out ?_, hbelr.setCell hBw _⟩
          rw [Pu.pack_even H8.out]
          exact hor
        · have hz8 : ((pend.length : Int) % 8 == 0) = false := beq_eq_false_iff_ne.2 (by omega)
          have H8 := Lib.hid h8
          clear h8
          go_wp2_with fail
          refine (byte_any gw go B cs _ (Pu.part pend pend.length) _ hBo hbr hcs.fn hor (by simp; omega)).mono ?_
          rintro e w2 ⟨rfl, hb3, ho3, hbel3⟩
          have e129 : w2.cell? ⟨gw, 129, none⟩ = some (.int .i64 (pend.length : Int)) := (hb3.cell 129).trans hcs.nb
          have g129 := hb3.frozen 129
          go_wp2
          go_end0
          refine ⟨rfl, flush_done hb3 hcs H0.out ?_, (hbelr.trans hbel3).setCell hBw _⟩
          rw [Pu.pack_odd H8.out, ← Pu.part_end]
          simpa using ho3
end Go.Proofs.Ytnkkpdpjkfjmnaa
