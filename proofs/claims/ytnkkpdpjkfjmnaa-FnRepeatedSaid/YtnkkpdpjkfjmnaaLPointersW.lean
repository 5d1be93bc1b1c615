/-
  The walk of the law FnPointers, and the plain law beneath it.
-/
import Derived.Test.YtnkkpdpjkfjmnaaLBitAtW
import Derived.WalkSpells
import Derived.Deep.DeepCutAuto
namespace Go.Proofs.Ytnkkpdpjkfjmnaa
open Go.RowKit
open Go.Proofs.Ytnkkpdpjkfjmnaa.fnBitAt (inS)
open Go.Proofs.Ytnkkpdpjkfjmnaa.Me (IsRow)
set_option linter.unusedVariables false

namespace Pu
/-- how many of the first places hold 'true' -/
def ones (f : Nat → Bool) : Nat → Nat
  | 0 => 0
  | m + 1 => ones f m + (if f m then 1 else 0)

theorem ones_congr {f g : Nat → Bool} {m : Nat} (h : ∀ i, i < m → f i = g i) : ones f m = ones g m := by
  induction m with
  | zero => rfl
  | succ m ih => simp only [ones]; rw [ih (fun i hi => h i (by omega)), h m (by omega)]

theorem ones_more {f : Nat → Bool} {m k : Nat} (h : ∀ j, j < k → f (m + j) = false) : ones f (m + k) = ones f m := by
  induction k with
  | zero => rfl
  | succ k ih => rw [← Nat.add_assoc]; simp only [ones]; rw [ih (fun j hj => h j (by omega)), h k (by omega)]; simp

theorem ones_le (f : Nat → Bool) (m : Nat) : ones f m ≤ m := by
  induction m with
  | zero => simp [ones]
  | succ m ih => simp only [ones]; split <;> omega

def PtrOk (l : List Op) (m : Nat) : Prop := ∃ s, ofL .empty l = some s ∧ s.long = m ∧ ones (bit s) m = l.length ∧ ∀ o ∈ l, ∃ k : Nat, o = ⟨0, k, 0⟩ ∧ k < m ∧ bit s k = true

theorem ptrOk_nil : PtrOk [] 0 := ⟨.empty, rfl, rfl, rfl, fun o h => by simp at h⟩

theorem ptr_step {s : Bs} (p : Nat) (hm : s.long + p + 1 ≤ 1152921504606846976) : ∃ y, ofStep s ⟨0, ((s.long + p : Nat) : Int), 0⟩ = some y ∧ y.long = s.long + p + 1 ∧ (∀ i, i < s.long → bit y i = bit s i) ∧ (∀ j, j < p → bit y (s.long + j) = false) ∧ bit y (s.long + p) = true := by
  obtain ⟨x, hx, zx⟩ := zeroTo_some (b := s) (N := s.long + p) (by omega) (by omega)
  have hxl : x.long = s.long + p := by rw [zx.1]; omega
  obtain ⟨y, hy⟩ := add_some (b := x) (n := 1) (back := 0) (l := some [true]) (by omega)
  have hyl := (add_long hy).1
  refine ⟨y, ?_, by omega, fun i hi => ?_, fun j hj => ?_, ?_⟩
  · rw [ofStep_ptr, hx]; exact hy
  · rw [add_bit_old hy (by omega), zx.2.2.1 i hi]
  · rw [add_bit_old hy (by omega), zx.2.2.2 j (by omega)]
  · have := add_bit_list hy (j := 0) (by omega)
    rw [Nat.add_zero, hxl] at this
    simpa using this

theorem ptrOk_snoc {l : List Op} {m : Nat} (h : PtrOk l m) (p : Nat) (hm : m + p + 1 ≤ 1152921504606846976) : PtrOk (l ++ [⟨0, ((m + p : Nat) : Int), 0⟩]) (m + p + 1) := by
  obtain ⟨s, hs, rfl, hc, ho⟩ := h
  obtain ⟨y, hy, hyl, h1, h2, h3⟩ := ptr_step (s := s) p hm
  refine ⟨y, by rw [ofL_snoc hs]; exact hy, hyl, ?_, fun o ho' => ?_⟩
  · simp only [ones]
    rw [ones_more h2, ones_congr h1, hc, h3]; simp
  · rcases List.mem_append.1 ho' with ho' | ho'
    · obtain ⟨k, e, hk, hb⟩ := ho o ho'
      exact ⟨k, e, by omega, by rw [h1 k hk, hb]⟩
    · simp at ho'
      exact ⟨s.long + p, by rw [ho']; simp, by omega, h3⟩
end Pu

namespace fnPointers
set_option maxRecDepth 100000 in
set_option maxHeartbeats 4000000 in
theorem walk (a0 : Option Addr) (len0 cap0 : Nat) (z0 : List Int) (w : World) (w0 : IsRow .i64 w a0 len0 cap0 z0) :
    Calls Try.prog 8 #[.slice a0 len0 cap0] w fun e w' => e = .returned (.bool true) ∧ Below w.heap.size w w' := by
  obtain ⟨hl, hm⟩ := w0.le
  obtain ⟨hgl, hS, hwf⟩ := w0.sl
  generalize z0.take len0 = gs at hgl hS hwf
  clear w0
  subst hgl
  unfold maxLen at hm
  by_cases hbig : 2147483647 < gs.length
  · go_enter Try.func8, Try.ntmps8
    go_wp2
    go_ret
    exact ⟨rfl, Below.refl _ _⟩
  go_enter Try.func8, Try.ntmps8
  go_upto_region 5 with (fail)
  go_cut [20, 21, 22] (fun s20 s21 s22 wx => ∃ M : Nat, s20 = .slice a0 M cap0 ∧ s21 = .int .i64 (M : Int) ∧ s22 = .int .i64 0 ∧ M ≤ gs.length ∧ M ≤ 1000 ∧ wx = w)
  case first =>
    by_cases h1000 : gs.length ≤ 1000
    · go_wp2_with fail
      go_meet
      exact ⟨gs.length, rfl, rfl, rfl, Nat.le_refl _, h1000, rfl⟩
    · go_wp2_with fail
      go_meet
      exact ⟨1000, rfl, rfl, rfl, by omega, Nat.le_refl _, rfl⟩
  case rest =>
    obtain ⟨M, rfl, rfl, rfl, hM, hM2, rfl⟩ := hcut
    go_wp2
    go_loopw [3, 4, 22] (fun v at' k wr => ∃ (j m : Nat) (t : Int) (GA : Option Addr) (GC : Nat) (l : List Pu.Op), k = .int .i64 j ∧ v = .slice GA j GC ∧ at' = .int .i64 t ∧ Hid (t = (m : Int) - 1) ∧ j ≤ M ∧ Hid (l.length = j) ∧ m ≤ 1000 * j ∧ -1 ≤ t ∧ t ≤ 1000000 ∧ Hid (Pu.PtrOk l m) ∧ wr.ownsRow wc.heap.size 45 3 (.slice GA j GC) j (opCells l) ∧ Below wc.heap.size wc wr)
      (fun _ _ k _ => M - (intOf k).toNat)
    case atStart => exact ⟨0, 0, -1, none, 0, [], rfl, rfl, rfl, rfl, Nat.zero_le _, rfl, by omega, by omega, by omega, Pu.ptrOk_nil, World.ownsRow_nil _ _ _ _, Below.refl _ _⟩
    case round =>
      obtain ⟨j, m, t, GA, GC, l, rfl, rfl, rfl, ht, hj, HLJ, hmj, ht1, ht2, HOK, hown, hbel⟩ := hrel
      have hsz := hbel.size
      by_cases hlt : j < M
      · obtain ⟨g, hg⟩ : ∃ g, gs[j]? = some g := ⟨gs[j]'(by omega), List.getElem?_eq_getElem (by omega)⟩
        obtain ⟨hg1, hg2⟩ := Me.wf_i64 (hwf g (List.mem_of_getElem? hg))
        obtain ⟨bb, off, rfl, hbb, hq⟩ : ∃ bb off, a0 = some ⟨bb, off, none⟩ ∧ bb < wc.heap.size ∧ wc.cell? ⟨bb, off + j, none⟩ = some (.int .i64 g) := by
          rcases hS with h | ⟨bb, off, e, hb, hcl⟩
          · rw [List.map_eq_nil_iff] at h
            rw [h] at hg
            simp at hg
          · exact ⟨bb, off, e, hb, hcl j _ (by simp [hg])⟩
        have k1 : wr.cell? ⟨bb, off + j, none⟩ = some (.int .i64 g) := (hbel.cell (p := ⟨bb, off + j, none⟩) hbb).trans hq
        have hp' := Pu.plcN_lt g 1000 (by omega)
        obtain ⟨p, hp⟩ : ∃ p, Pu.plcN g 1000 = p := ⟨_, rfl⟩
        rw [hp] at hp'
        have HP := Lib.hid hp
        have h3 := Me.ones3 (x := .int .i64 0) (y := .int .i64 (t + (1 + (p : Int)))) (z := .int .i64 0) rfl rfl rfl
        have hjb : (j + 1) * 24 ≤ 140737488355328 := by omega
        have htm : t = (m : Int) - 1 := ht.out
        have ht3 : t + (1 + (p : Int)) ≤ 1000000 := by omega
        have ht4 : t + (1 + (p : Int)) = ((m + p : Nat) : Int) := by omega
        have HT4 := Lib.hid ht4
        clear hp hg hq htm ht4
        go_wp2_with (first
          | (go_at_call 17; refine (place_nat g 1000 _ hg1 hg2 (by omega) (by omega)).mono ?_; rintro e w' ⟨he, rfl⟩; rw [HP.out] at he; subst he)
          | (at_builtin; refine Me.wpList_appv el45 rfl hown _ _ rfl rfl rfl rfl h3 hjb hsz ?_; intro A2 c2 w3 hc2 hcm2 hown3 hg3))
        go_roundw
        case rel =>
          refine ⟨j + 1, m + p + 1, t + (1 + (p : Int)), A2, c2, l ++ [⟨0, ((m + p : Nat) : Int), 0⟩], by go_num, rfl, rfl, ?_, by omega, ?_, by omega, by omega, ht3, Lib.hid (Pu.ptrOk_snoc HOK.out p (by omega)), ?_, hbel.grown hg3 hsz (fun k hk => (hown.lt k hk).1)⟩
          · have := HT4.out
            show t + (1 + (p : Int)) = ((m + p + 1 : Nat) : Int) - 1
            omega
          · show (l ++ [_]).length = j + 1
            simp [HLJ.out]
          · rw [opCells_append, ← HT4.out]
            exact hown3
        case measure => simp [intOf]; omega
      · have hjM : M = j := by omega
        subst hjM
        have hLJ := HLJ.out
        subst hLJ
        obtain ⟨s, hs, hsl, hsc, hso⟩ := HOK.out
        subst hsl
        have HO := Lib.hid hs
        have htm : t + 1 = (s.long : Int) := by have := ht.out; omega
        have hlm : s.long ≤ 1000000 := by omega
        obtain ⟨hc1, hc2⟩ := Me.own_cap hown
        have hS2 : Me.Sl wr wr.heap.size GA (opCells l) := Me.Sl.of_ownN hown
        have HTM := Lib.hid htm
        clear hs htm hS
        go_wp2_with fail
        refine (readlaw_any GA GC l s wr hc1 hc2 (by omega) hS2 HO.out).mono ?_
        rintro e w1 ⟨hb1, b, QA, QC, rfl, hpb, hwb, hsm, hlb⟩
        have HW := Lib.hid hwb
        have HS := Lib.hid hsm
        have hbs := hsm.1
        have hbl : b.long ≤ 1000000 := by omega
        have HBS := Lib.hid hbs
        have hne : ((b.long : Int) != t + 1) = false := by rw [bne_eq_false_iff_eq, HTM.out, hbs]
        have HCNT : Hid (Pu.ones (Pu.bit b) b.long = l.length) := by
          show Pu.ones (Pu.bit b) b.long = l.length
          rw [Pu.ones_congr (g := Pu.bit s) hsm.2, hbs, hsc]
        have HSO := Lib.hid hso
        have hb3 := balloc (bstep hbel hb1) (Obj.cells #[Value.slice QA b.parts.length QC, Value.int IntKind.i64 ↑b.long] 30)
        have hS3 := slAt (slAt hS2 hb1) (bnew w1 (Obj.cells #[Value.slice QA b.parts.length QC, Value.int IntKind.i64 ↑b.long] 30))
        have hpb2 := hpb.below (bnew w1 (Obj.cells #[Value.slice QA b.parts.length QC, Value.int IntKind.i64 ↑b.long] 30))
        have hB3 := Me.Blk.new w1 30 #[Value.slice QA b.parts.length QC, Value.int IntKind.i64 ↑b.long]
        clear hwb hsm hbs hso hsc hpb hb1 hS2 hown hbel
        go_wp2_with fail
        generalize w1.alloc (Obj.cells #[Value.slice QA b.parts.length QC, Value.int IntKind.i64 ↑b.long] 30) = wx at hb3 hS3 hpb2 hB3 ⊢
        have q0 : wx.cell? ⟨w1.heap.size, 0, none⟩ = some (.slice QA b.parts.length QC) := hB3.cell 0
        have q1 : wx.cell? ⟨w1.heap.size, 1, none⟩ = some (.int .i64 (b.long : Int)) := hB3.cell 1
        have hl1 := hB3.lt
        clear hB3
        go_loopw [5, 53] (fun mv k wr => ∃ j : Nat, k = .int .i64 j ∧ mv = .int .i64 ((Pu.ones (Pu.bit b) j : Nat) : Int) ∧ j ≤ b.long ∧ (fun w' : World => w'.cell? ⟨w1.heap.size, 0, none⟩ = some (Value.slice QA b.parts.length QC) ∧ w'.cell? ⟨w1.heap.size, 1, none⟩ = some (Value.int .i64 (b.long : Int)) ∧ Below wx.heap.size wx w') wr)
          (fun _ k _ => b.long - (intOf k).toNat)
        case atStart => exact ⟨0, rfl, rfl, Nat.zero_le _, q0, q1, Below.refl _ _⟩
        case round =>
          obtain ⟨i, rfl, rfl, hi, r0, r1, r2⟩ := hrel
          have hw1 : w1.heap.size < wr.heap.size := Nat.lt_of_lt_of_le hl1 r2.size
          by_cases hlt2 : i < b.long
          · have hon := Pu.ones_le (Pu.bit b) i
            obtain ⟨x, hx⟩ : ∃ x, Pu.bit b i = x := ⟨_, rfl⟩
            have HX := Lib.hid hx
            have HN := Lib.hid (show Pu.ones (Pu.bit b) (i + 1) = Pu.ones (Pu.bit b) i + (if x then 1 else 0) by simp only [Pu.ones]; rw [hx])
            generalize Pu.ones (Pu.bit b) i = q at hon HN ⊢
            have hq : (q : Int) ≤ 1000000 := by omega
            clear hx
            go_wp2_with fail
            refine (at_is b QA QC i _ x _ HX.out (hpb2.below r2) HW.out hlt2 hlb).mono ?_
            rintro e w3 ⟨rfl, hb4⟩
            have s0 : w3.cell? ⟨w1.heap.size, 0, none⟩ = some (.slice QA b.parts.length QC) := (hb4.cell (p := ⟨w1.heap.size, 0, none⟩) hw1).trans r0
            have s1 : w3.cell? ⟨w1.heap.size, 1, none⟩ = some (.int .i64 (b.long : Int)) := (hb4.cell (p := ⟨w1.heap.size, 1, none⟩) hw1).trans r1
            cases x
            · go_wp2
              go_roundw
              case rel => exact ⟨i + 1, by go_num, by rw [HN.out]; simp, by omega, s0, s1, bstep r2 hb4⟩
              case measure => simp [intOf]; omega
            · go_wp2
              go_roundw
              case rel => exact ⟨i + 1, by go_num, by rw [HN.out]; simp, by omega, s0, s1, bstep r2 hb4⟩
              case measure => simp [intOf]; omega
          · have hib : i = b.long := by omega
            subst hib
            rw [HCNT.out]
            go_wp2_with fail
            go_loopw [64] (fun k wr => ∃ j : Nat, k = .int .i64 j ∧ j ≤ l.length ∧ (fun w' : World => w'.cell? ⟨w1.heap.size, 0, none⟩ = some (Value.slice QA b.parts.length QC) ∧ w'.cell? ⟨w1.heap.size, 1, none⟩ = some (Value.int .i64 (b.long : Int)) ∧ Below wx.heap.size wx w') wr)
              (fun k _ => l.length - (intOf k).toNat)
            case atStart => exact ⟨0, rfl, Nat.zero_le _, r0, r1, r2⟩
            case round =>
              obtain ⟨i, rfl, hi3, v0, v1, v2⟩ := hrel
              have hw2 : w1.heap.size < wr.heap.size := Nat.lt_of_lt_of_le hl1 v2.size
              by_cases hlt3 : i < l.length
              · obtain ⟨o, ho⟩ : ∃ o, l[i]? = some o := ⟨l[i], List.getElem?_eq_getElem hlt3⟩
                obtain ⟨k, rfl, hk, hbk⟩ := HSO.out o (List.mem_of_getElem? ho)
                obtain ⟨bb, off, rfl, hbb, c1, c2, c3⟩ := op_cells hS3 ho
                have e1 : wr.cell? ⟨bb, off + i * 3, none⟩ = some (.int .i64 0) := (v2.cell (p := ⟨bb, off + i * 3, none⟩) hbb).trans c1
                have e2 : wr.cell? ⟨bb, off + i * 3 + 1, none⟩ = some (.int .i64 (k : Int)) := (v2.cell (p := ⟨bb, off + i * 3 + 1, none⟩) hbb).trans c2
                have e3 : wr.cell? ⟨bb, off + i * 3 + 2, none⟩ = some (.int .i64 0) := (v2.cell (p := ⟨bb, off + i * 3 + 2, none⟩) hbb).trans c3
                have hkb : k < b.long := by have := HBS.out; omega
                have HX := Lib.hid ((HS.out.2 k hkb).trans hbk)
                have hv3 := balloc v2 (Obj.cells #[Value.int IntKind.i64 0, Value.int IntKind.i64 ↑k, Value.int IntKind.i64 0] 45)
                clear ho hbk c1 c2 c3
                go_wp2_with fail
                refine (at_is b QA QC k _ true _ HX.out (hpb2.below hv3) HW.out hkb hlb).mono ?_
                rintro e w3 ⟨rfl, hb4⟩
                have hw3 : w1.heap.size < (wr.alloc (Obj.cells #[Value.int IntKind.i64 0, Value.int IntKind.i64 ↑k, Value.int IntKind.i64 0] 45)).heap.size := by rw [World.size_alloc]; omega
                have hb5 := bstep (bnew wr (Obj.cells #[Value.int IntKind.i64 0, Value.int IntKind.i64 ↑k, Value.int IntKind.i64 0] 45)) hb4
                have s0 : w3.cell? ⟨w1.heap.size, 0, none⟩ = some (.slice QA b.parts.length QC) := (hb5.cell (p := ⟨w1.heap.size, 0, none⟩) hw2).trans v0
                have s1 : w3.cell? ⟨w1.heap.size, 1, none⟩ = some (.int .i64 (b.long : Int)) := (hb5.cell (p := ⟨w1.heap.size, 1, none⟩) hw2).trans v1
                go_wp2
                go_roundw
                case rel => exact ⟨i + 1, by go_num, by omega, s0, s1, bstep v2 hb5⟩
                case measure => simp [intOf]; omega
              · have hil : i = l.length := by omega
                subst hil
                go_wp2
                go_ret
                exact ⟨rfl, bstep hb3 v2⟩
end fnPointers
end Go.Proofs.Ytnkkpdpjkfjmnaa
