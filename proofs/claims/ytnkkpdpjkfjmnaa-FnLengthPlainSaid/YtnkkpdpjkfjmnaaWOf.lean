/-
  The contract of spec.Of: the bits that steps write, or none.
-/
import Derived.Test.YtnkkpdpjkfjmnaaWRead
import Derived.Test.YtnkkpdpjkfjmnaaWIprog
import Derived.Deep.DeepCutAuto
import Derived.Deep.CutBlock
namespace Go.Proofs.Ytnkkpdpjkfjmnaa
open Go.RowKit
set_option linter.unusedVariables false

/-- the fields of steps fit int64 -/
def Fits (l : List Pu.Op) : Prop := ∀ o ∈ l, (-9223372036854775808 ≤ o.kind ∧ o.kind ≤ 9223372036854775807) ∧ (-9223372036854775808 ≤ o.n ∧ o.n ≤ 9223372036854775807) ∧ (-9223372036854775808 ≤ o.c ∧ o.c ≤ 9223372036854775807)

/-- what one step leaves -/
def StepCut (w : World) (b : Pu.Bs) (o : Pu.Op) (s : Value) (wx : World) : Prop :=
  Me.Blk wx w.heap.size 30 #[.slice none 0 0, .int .i64 0] ∧ Below w.heap.size w wx ∧
  ((∃ b', s = .bool true ∧ Pu.ofStep b o = some b' ∧ Me.BitsAt wx (w.heap.size + 1) w.heap.size b' ∧ b'.parts.length ≤ b.parts.length + 2) ∨ (s = .bool false ∧ Pu.ofStep b o = none))

theorem BitsAt.later {w w' : World} {g B : Nat} {b : Pu.Bs} (h : Me.BitsAt w g B b) (hb : Below w.heap.size w w') : Me.BitsAt w' g B b := by
  obtain ⟨v, h1, h2⟩ := h
  exact ⟨v, h1.below hb h1.lt, h2.below hb⟩

set_option maxRecDepth 100000 in
set_option maxHeartbeats 4000000 in
theorem of_any (A : Option Addr) (c : Nat) (l : List Pu.Op) (w : World) (hc : l.length ≤ c) (hcm : c ≤ maxLen) (hlen : l.length < 8589934592) (hf : Fits l) (hS : Me.Sl w w.heap.size A (opCells l)) :
    Calls Try.prog 22 #[.slice A l.length c] w (ReadPost w (Pu.ofL .empty l)) := by
  unfold maxLen at hcm
  have HFt := Lib.hid hf
  clear hf
  go_enter Try.func22, Try.ntmps22
  go_wp2
  go_loopw [10] (fun k wr => ∃ (j : Nat) (b : Pu.Bs), k = .int .i64 j ∧ j ≤ l.length ∧ Me.BitsAt wr (w.heap.size + 1) w.heap.size b ∧ b.long ≤ 1152921504606846976 ∧ b.parts.length ≤ 2 * j ∧ Me.Blk wr w.heap.size 30 #[.slice none 0 0, .int .i64 0] ∧ Below w.heap.size w wr ∧ Hid (Pu.ofL b (l.drop j) = Pu.ofL .empty l))
    (fun k _ => l.length - (intOf k).toNat)
  case atStart =>
    refine ⟨0, .empty, rfl, Nat.zero_le _, ⟨.slice none 0 0, ?_, Me.PartsV.nil⟩, by simp [Pu.Bs.empty], by simp [Pu.Bs.empty], (Me.Blk.new w 30 _).alloc _, ((Below.refl _ _).alloc (Nat.le_refl _) _).alloc (by simp) _, rfl⟩
    have := Me.Blk.new (w.alloc (Obj.cells #[Value.slice none 0 0, Value.int IntKind.i64 0] 30)) 30 #[Value.slice none 0 0, Value.int IntKind.i64 0]
    simpa [Pu.Bs.empty] using this
  case round =>
    obtain ⟨j, b, rfl, hj, hb, hlong, hcnt, hres, hbel, HO⟩ := hrel
    by_cases hlt : j < l.length
    · obtain ⟨o, ho⟩ : ∃ o, l[j]? = some o := ⟨l[j], List.getElem?_eq_getElem hlt⟩
      obtain ⟨⟨f1, f2⟩, ⟨f3, f4⟩, f5, f6⟩ := HFt.out o (List.mem_of_getElem? ho)
      obtain ⟨bb, off, rfl, hbb, q1, q2, q3⟩ := op_cells hS ho
      have k1 : wr.cell? ⟨bb, off + j * 3, none⟩ = some (.int .i64 o.kind) := (hbel.cell (p := ⟨bb, off + j * 3, none⟩) hbb).trans q1
      have k2 : wr.cell? ⟨bb, off + j * 3 + 1, none⟩ = some (.int .i64 o.n) := (hbel.cell (p := ⟨bb, off + j * 3 + 1, none⟩) hbb).trans q2
      have k3 : wr.cell? ⟨bb, off + j * 3 + 2, none⟩ = some (.int .i64 o.c) := (hbel.cell (p := ⟨bb, off + j * 3 + 2, none⟩) hbb).trans q3
      have hdr : l.drop j = o :: l.drop (j + 1) := by
        rw [List.drop_eq_getElem_cons hlt]
        rw [List.getElem?_eq_getElem hlt] at ho
        injection ho with ho
        rw [ho]
      have HD := Lib.hid hdr
      clear ho q1 q2 q3 hdr
      go_upto_block 2 with (fail)
      go_cut [7] (fun s7 wx => StepCut w b o s7 wx)
      case first =>
        have hb1 := BitsAt.later hb ((Below.refl _ _).alloc (Nat.le_refl _) (Obj.cells #[Value.int IntKind.i64 o.kind, Value.int IntKind.i64 o.n, Value.int IntKind.i64 o.c] 45))
        have hres1 := hres.alloc (Obj.cells #[Value.int IntKind.i64 o.kind, Value.int IntKind.i64 o.n, Value.int IntKind.i64 o.c] 45)
        have hbel1 := hbel.alloc hbel.size (Obj.cells #[Value.int IntKind.i64 o.kind, Value.int IntKind.i64 o.n, Value.int IntKind.i64 o.c] 45)
        have b45 := Me.Blk.new wr 45 #[Value.int IntKind.i64 o.kind, Value.int IntKind.i64 o.n, Value.int IntKind.i64 o.c]
        have hlt1 : wr.heap.size < (wr.alloc (Obj.cells #[Value.int IntKind.i64 o.kind, Value.int IntKind.i64 o.n, Value.int IntKind.i64 o.c] 45)).heap.size := b45.lt
        have hnR : w.heap.size ≠ w.heap.size + 1 := by omega
        generalize wr.alloc (Obj.cells #[Value.int IntKind.i64 o.kind, Value.int IntKind.i64 o.n, Value.int IntKind.i64 o.c] 45) = w1 at hb1 hres1 hbel1 b45 hlt1 ⊢
        have d0 : w1.cell? ⟨wr.heap.size, 0, none⟩ = some (.int .i64 o.kind) := b45.cell 0
        have d1 : w1.cell? ⟨wr.heap.size, 1, none⟩ = some (.int .i64 o.n) := b45.cell 1
        have d2 : w1.cell? ⟨wr.heap.size, 2, none⟩ = some (.int .i64 o.c) := b45.cell 2
        obtain ⟨PA, PC, hbk, _⟩ := hb1.shape
        have e1 : w1.cell? ⟨w.heap.size + 1, 1, none⟩ = some (.int .i64 (b.long : Int)) := hbk.cell 1
        have HRes := Lib.hid hres1
        have HBk := Lib.hid hbk
        clear hres1 hbk k1 k2 k3 hres hb b45
        by_cases h0 : o.kind = 0
        · have hz0 : (o.kind == 0) = true := beq_iff_eq.2 h0
          have hstep : Pu.ofStep b o = (Pu.zeroTo b o.n).bind fun b' => Pu.add b' 1 (some [true]) 0 := by unfold Pu.ofStep; rw [if_pos h0]
          have HST := Lib.hid hstep
          clear h0 hstep
          by_cases hn : o.n < (b.long : Int)
          · have HN := Lib.hid (show Pu.ofStep b o = none by rw [HST.out]; unfold Pu.zeroTo; rw [if_neg (by omega)]; rfl)
            go_wp2_with fail
            go_meet
            exact ⟨HRes.out, hbel1, .inr ⟨rfl, HN.out⟩⟩
          · obtain ⟨n1, hn1⟩ : ∃ n1 : Nat, o.n - (b.long : Int) = (n1 : Int) := ⟨(o.n - b.long).toNat, by omega⟩
            have HN1 := Lib.hid hn1
            have HZ := Lib.hid (show Pu.zeroTo b o.n = Pu.add b n1 none 0 by unfold Pu.zeroTo; rw [if_pos (by omega), hn1, Int.toNat_natCast])
            clear hn1
            go_wp2_with fail
            rw [HN1.out]
            refine (add_any (w.heap.size + 1) w.heap.size b n1 0 none (.slice none 0 0) w1 (by omega) hb1 (.inl ⟨rfl, rfl⟩) hlong (by have := HN1.out; omega) (by omega) (by omega)).mono ?_
            rintro e w2 ⟨hf2, hm⟩
            have HF2 := Lib.hid hf2
            have hres2 := Lib.hid (HRes.out.fr hf2 (addM_ne hnR))
            have hbel2 := hbel1.trans hf2.below
            clear hf2
            cases hr : Pu.add b n1 none 0 with
            | none =>
              rw [hr] at hm
              obtain ⟨rfl, _⟩ := hm
              have HN := Lib.hid (show Pu.ofStep b o = none by rw [HST.out, HZ.out, hr]; rfl)
              clear hr
              go_wp2_with fail
              go_meet
              exact ⟨hres2.out, hbel2, .inr ⟨rfl, HN.out⟩⟩
            | some b1 =>
              rw [hr] at hm
              obtain ⟨rfl, hb2⟩ := hm
              have hbd := Pu.add_bd hr
              have HS2 := Lib.hid (show Pu.ofStep b o = Pu.add b1 1 (some [true]) 0 by rw [HST.out, HZ.out, hr]; rfl)
              clear hr
              go_wp2_with fail
              have hb3 := BitsAt.later hb2 ((Below.refl _ _).alloc (Nat.le_refl _) (Obj.cells #[Value.bool true] 4))
              have hl3 : Me.ListV (w2.alloc (Obj.cells #[Value.bool true] 4)) (.slice (some ⟨w2.heap.size, 0, none⟩) 1 1) (some [true]) := by
                refine .inr ⟨[true], rfl, by simp, ⟨rfl, .inr ⟨w2.heap.size, 1, #[.bool true], rfl, Nat.zero_le _, heap_alloc_new w2 _, Nat.le_refl _, by simp [maxLen], rfl, rfl⟩⟩⟩
              have hres3 := Lib.hid (hres2.out.alloc (Obj.cells #[Value.bool true] 4))
              refine (add_any (w.heap.size + 1) w.heap.size b1 1 0 (some [true]) (.slice (some ⟨w2.heap.size, 0, none⟩) 1 1) (w2.alloc (Obj.cells #[Value.bool true] 4)) (by omega) hb3 hl3 (hbd.1 hlong) (by omega) (by omega) (by omega)).mono ?_
              rintro e w3 ⟨hf3, hm⟩
              have hres4 := Lib.hid (hres3.out.fr hf3 (addM_ne hnR))
              have hbel4 := (hbel2.alloc hbel2.size (Obj.cells #[Value.bool true] 4)).trans hf3.below
              clear hf3
              cases hr : Pu.add b1 1 (some [true]) 0 with
              | none =>
                rw [hr] at hm
                obtain ⟨rfl, _⟩ := hm
                have HN := Lib.hid (HS2.out.trans hr)
                clear hr
                go_wp2_with fail
                go_meet
                exact ⟨hres4.out, hbel4, .inr ⟨rfl, HN.out⟩⟩
              | some b2 =>
                rw [hr] at hm
                obtain ⟨rfl, hb4⟩ := hm
                have hbd2 := Pu.add_bd hr
                have HN := Lib.hid (HS2.out.trans hr)
                clear hr
                go_wp2_with fail
                go_meet
                exact ⟨hres4.out, hbel4, .inl ⟨b2, rfl, HN.out, hb4, by omega⟩⟩
        · have hz0 : (o.kind == 0) = false := beq_eq_false_iff_ne.2 h0
          by_cases h1 : o.kind = 1
          · have hz1 : (o.kind == 1) = true := beq_iff_eq.2 h1
            have hstep : Pu.ofStep b o = Pu.zeroTo b o.n := by unfold Pu.ofStep; rw [if_neg h0, if_pos h1]
            have HST := Lib.hid hstep
            clear h0 h1 hstep
            by_cases hn : o.n < (b.long : Int)
            · have HN := Lib.hid (show Pu.ofStep b o = none by rw [HST.out]; unfold Pu.zeroTo; rw [if_neg (by omega)])
              go_wp2_with fail
              go_meet
              exact ⟨HRes.out, hbel1, .inr ⟨rfl, HN.out⟩⟩
            · obtain ⟨n1, hn1⟩ : ∃ n1 : Nat, o.n - (b.long : Int) = (n1 : Int) := ⟨(o.n - b.long).toNat, by omega⟩
              have HN1 := Lib.hid hn1
              have HZ := Lib.hid (show Pu.zeroTo b o.n = Pu.add b n1 none 0 by unfold Pu.zeroTo; rw [if_pos (by omega), hn1, Int.toNat_natCast])
              clear hn1
              go_wp2_with fail
              rw [HN1.out]
              refine (add_any (w.heap.size + 1) w.heap.size b n1 0 none (.slice none 0 0) w1 (by omega) hb1 (.inl ⟨rfl, rfl⟩) hlong (by have := HN1.out; omega) (by omega) (by omega)).mono ?_
              rintro e w2 ⟨hf2, hm⟩
              have hres2 := Lib.hid (HRes.out.fr hf2 (addM_ne hnR))
              have hbel2 := hbel1.trans hf2.below
              clear hf2
              cases hr : Pu.add b n1 none 0 with
              | none =>
                rw [hr] at hm
                obtain ⟨rfl, _⟩ := hm
                have HN := Lib.hid (show Pu.ofStep b o = none by rw [HST.out, HZ.out, hr])
                clear hr
                go_wp2_with fail
                go_meet
                exact ⟨hres2.out, hbel2, .inr ⟨rfl, HN.out⟩⟩
              | some b1 =>
                rw [hr] at hm
                obtain ⟨rfl, hb2⟩ := hm
                have hbd := Pu.add_bd hr
                have HN := Lib.hid (show Pu.ofStep b o = some b1 by rw [HST.out, HZ.out, hr])
                clear hr
                go_wp2_with fail
                go_meet
                exact ⟨hres2.out, hbel2, .inl ⟨b1, rfl, HN.out, hb2, by omega⟩⟩
          · have hz1 : (o.kind == 1) = false := beq_eq_false_iff_ne.2 h1
            by_cases h2 : o.kind = 2
            · have hz2 : (o.kind == 2) = true := beq_iff_eq.2 h2
              have hstep : Pu.ofStep b o = Pu.again b o.n o.c := by unfold Pu.ofStep; rw [if_neg h0, if_neg h1, if_pos h2]
              have HST := Lib.hid hstep
              clear h0 h1 h2 hstep
              go_wp2_with fail
              refine (again_any (w.heap.size + 1) w.heap.size b o.n o.c w1 (by omega) hb1 hlong f3 f4 f5 f6 (by omega)).mono ?_
              rintro e w2 ⟨hf2, hm⟩
              have hres2 := Lib.hid (HRes.out.fr hf2 (addM_ne hnR))
              have hbel2 := hbel1.trans hf2.below
              clear hf2
              cases hr : Pu.again b o.n o.c with
              | none =>
                rw [hr] at hm
                obtain ⟨rfl, _⟩ := hm
                have HN := Lib.hid (HST.out.trans hr)
                clear hr
                go_wp2_with fail
                go_meet
                exact ⟨hres2.out, hbel2, .inr ⟨rfl, HN.out⟩⟩
              | some b1 =>
                rw [hr] at hm
                obtain ⟨rfl, hb2⟩ := hm
                have hbd := Pu.again_bd hr
                have HN := Lib.hid (HST.out.trans hr)
                clear hr
                go_wp2_with fail
                go_meet
                exact ⟨hres2.out, hbel2, .inl ⟨b1, rfl, HN.out, hb2, by omega⟩⟩
            · have hz2 : (o.kind == 2) = false := beq_eq_false_iff_ne.2 h2
              have HN := Lib.hid (show Pu.ofStep b o = none by unfold Pu.ofStep; rw [if_neg h0, if_neg h1, if_neg h2])
              clear h0 h1 h2
              go_wp2_with fail
              go_meet
              exact ⟨HRes.out, hbel1, .inr ⟨rfl, HN.out⟩⟩
      case rest =>
        obtain ⟨hres2, hbel2, ⟨b', rfl, hst, hb', hc'⟩ | ⟨rfl, hst⟩⟩ := hcut
        · have HST := Lib.hid hst
          clear hst
          have hlong' := (Pu.ofStep_long HST.out).2
          have HN := Lib.hid (show Pu.ofL b' (l.drop (j + 1)) = Pu.ofL .empty l by rw [← HO.out, HD.out]; simp only [Pu.ofL, HST.out]; rfl)
          go_wp2
          go_roundw
          case rel => exact ⟨j + 1, b', by go_num, by omega, hb', hlong', by omega, hres2, hbel2, HN.out⟩
          case measure => simp [intOf]; omega
        · have HN := Lib.hid (show Pu.ofL .empty l = none by rw [← HO.out, HD.out]; simp only [Pu.ofL, hst]; rfl)
          have t0 : wc.cell? ⟨w.heap.size, 0, none⟩ = some (.slice none 0 0) := hres2.cell 0
          have t1 : wc.cell? ⟨w.heap.size, 1, none⟩ = some (.int .i64 0) := hres2.cell 1
          have p0 := hres2.frozen 0
          have p1 := hres2.frozen 1
          clear hst
          go_wp2
          refine bodyPost_ret (v := .tuple #[.agg #[.slice none 0 0, .int .i64 0], .bool false]) (by simp [results, Try.results22, go_sem, t0, t1]) rfl ?_
          exact readPost_bad HN.out ((hbel2.setCell (p := ⟨w.heap.size, 0, none⟩) (Nat.le_refl _) _).setCell (p := ⟨w.heap.size, 1, none⟩) (Nat.le_refl _) _)
    · obtain rfl : j = l.length := by omega
      have HN := Lib.hid (show Pu.ofL .empty l = some b by rw [← HO.out, List.drop_length]; rfl)
      obtain ⟨PA, PC, hblk, hpv⟩ := hb.shape
      have s0 : wr.cell? ⟨w.heap.size + 1, 0, none⟩ = some (.slice PA b.parts.length PC) := hblk.cell 0
      have s1 : wr.cell? ⟨w.heap.size + 1, 1, none⟩ = some (.int .i64 (b.long : Int)) := hblk.cell 1
      have r0 : wr.cell? ⟨w.heap.size, 0, none⟩ = some (.slice none 0 0) := hres.cell 0
      have r1 : wr.cell? ⟨w.heap.size, 1, none⟩ = some (.int .i64 0) := hres.cell 1
      have p0 := hres.frozen 0
      have p1 := hres.frozen 1
      have HS := Lib.hid ((hbel.setCell (p := ⟨w.heap.size, 0, none⟩) (Nat.le_refl _) (.slice PA b.parts.length PC)).setCell (p := ⟨w.heap.size, 1, none⟩) (Nat.le_refl _) (.int .i64 (b.long : Int)))
      have HP := Lib.hid ((hpv.far hres (by decide) (by decide) 0 (.slice PA b.parts.length PC)).far (hres.set_ 0 (.slice PA b.parts.length PC)) (by decide) (by decide) 1 (.int .i64 (b.long : Int)))
      have HPV := Lib.hid hpv
      clear hpv
      go_wp2
      refine bodyPost_ret (v := .tuple #[.agg #[.slice PA b.parts.length PC, .int .i64 (b.long : Int)], .bool true]) (by simp [results, Try.results22, go_sem, r0, r1]) rfl ?_
      rw [HN.out]
      exact ⟨HS.out, _, _, rfl, HP.out, hlong⟩
end Go.Proofs.Ytnkkpdpjkfjmnaa
