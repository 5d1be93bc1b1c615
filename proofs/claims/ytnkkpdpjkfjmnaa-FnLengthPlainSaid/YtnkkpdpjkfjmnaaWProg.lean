/-
  The contracts of gcprog.Program, impl.kindOf and impl.Program.
-/
import Derived.Test.YtnkkpdpjkfjmnaaWLit
import Derived.Laws.EntriesVeiled
import Derived.Deep.RegionLaw
import Derived.KernelRfl
namespace Go.Proofs.Ytnkkpdpjkfjmnaa
open Go.RowKit
set_option linter.unusedVariables false

set_option maxHeartbeats 400000 in
theorem init_any (gw go B : Nat) (cs : Array Value) (w : World) (hblk : Me.Blk w gw 70 cs) (hs : cs.size = 130) :
    Calls Try.prog 38 #[.pointer (some ⟨gw, 0, none⟩), .func (Fn.func 39) #[] #[.pointer (some ⟨go, 0, none⟩)]] w fun e w' => e = .returned (.tuple #[]) ∧ w' = w.setCell ⟨gw, 0, none⟩ (keeper go) := by
  obtain ⟨v, hv⟩ : ∃ v, cs[0]? = some v := ⟨cs[0]'(by omega), Array.getElem?_eq_getElem (by omega)⟩
  have c0 : w.cell? ⟨gw, 0, none⟩ = some v := (hblk.cell 0).trans hv
  have f0 := hblk.frozen 0
  clear hv
  go_enter Try.func38, Try.ntmps38
  go_wp2
  go_end0
  exact ⟨rfl, rfl⟩

theorem WrAt.below {w w' : World} {gw go B : Nat} {W : Pu.Wr} (h : WrAt w gw go B W) (hb : Below w.heap.size w w') : WrAt w' gw go B W := by
  obtain ⟨cs, h1, h2, h3⟩ := h
  exact ⟨cs, h1.below hb h1.lt, h2, h3.below hb⟩

/-- the cells of a new writer -/
def wrCells : Array Value := (.nilFunc :: .int .i64 0 :: (List.replicate 127 (.int .u8 0) ++ [.int .i64 0])).toArray
theorem wrCells_size : wrCells.size = 130 := by simp [wrCells]
theorem zero70 (W : World) : (zeroValue 70).run Try.prog W = .ok (.agg wrCells) W := by kernel_rfl
theorem wrCells_ok (go : Nat) : CsOk (wrCells.setIfInBounds 0 (keeper go)) go [] 0 := by
  have hs := wrCells_size
  refine ⟨by simpa using hs, ?_, ?_, fun j hj => ⟨0, ?_⟩, fun j hj => by simp at hj, ?_, by simp⟩
  · rw [Array.getElem?_setIfInBounds_self_of_lt (by omega)]
  · rw [Array.getElem?_setIfInBounds_ne (by omega)]
    kernel_rfl
  · rw [Array.getElem?_setIfInBounds_ne (by omega)]
    have h : wrCells[2 + j]? = (List.replicate 127 (Value.int .u8 0) ++ [.int .i64 0])[j]? := by
      unfold wrCells
      rw [List.getElem?_toArray, show 2 + j = j + 1 + 1 from by omega]
      rfl
    rw [h, List.getElem?_append_left (by simp; omega), List.getElem?_replicate]
    simp [hj]
  · rw [Array.getElem?_setIfInBounds_ne (by omega)]
    kernel_rfl

/-- the cells of steps (impl.Op and gcprog.Op: three cells each) -/
def opCells : List Pu.Op → List Value
  | [] => []
  | o :: l => .int .i64 o.kind :: .int .i64 o.n :: .int .i64 o.c :: opCells l

theorem opCells_length (l : List Pu.Op) : (opCells l).length = 3 * l.length := by
  induction l with
  | nil => rfl
  | cons o l ih => simp only [opCells, List.length_cons, ih]; omega
theorem opCells_append (l m : List Pu.Op) : opCells (l ++ m) = opCells l ++ opCells m := by
  induction l with
  | nil => rfl
  | cons o l ih => simp [opCells, ih]
theorem opCells_get {l : List Pu.Op} {k : Nat} {o : Pu.Op} (h : l[k]? = some o) :
    (opCells l)[k * 3]? = some (.int .i64 o.kind) ∧ (opCells l)[k * 3 + 1]? = some (.int .i64 o.n) ∧ (opCells l)[k * 3 + 2]? = some (.int .i64 o.c) := by
  induction l generalizing k with
  | nil => simp at h
  | cons p l ih =>
    cases k with
    | zero =>
      simp at h
      subst h
      exact ⟨rfl, rfl, rfl⟩
    | succ k =>
      simp at h
      have := ih h
      rw [show (k + 1) * 3 = k * 3 + 1 + 1 + 1 from by omega]
      simpa [opCells] using this
theorem opCells_one (l : List Pu.Op) : ∀ u ∈ opCells l, u.oneCell' = true := by
  induction l with
  | nil => simp [opCells]
  | cons o l ih =>
    intro u hu
    simp only [opCells, List.mem_cons] at hu
    rcases hu with rfl | rfl | rfl | hu
    · rfl
    · rfl
    · rfl
    · exact ih u hu

/-- the other package's number of a kind of step -/
def kindOf (k : Int) : Int := if k = 2 then 1 else if k = 1 then 2 else 0
def conv (o : Pu.Op) : Pu.Op := ⟨kindOf o.kind, o.n, o.c⟩

set_option maxRecDepth 100000 in
set_option maxHeartbeats 4000000 in
theorem gprog_any (A : Option Addr) (c : Nat) (l : List Pu.Op) (sf : Pu.Bs) (w : World) (hc : l.length ≤ c) (hcm : c ≤ maxLen) (hlen : l.length < 8589934592) (hS : Me.Sl w w.heap.size A (opCells (l.map conv))) (hl : Pu.ofL .empty l = some sf) :
    Calls Try.prog 35 #[.slice A l.length c] w fun e w' => ∃ v, e = .returned v ∧ w'.ownsRow w.heap.size 5 1 v (Pu.prog l).length ((Pu.prog l).map Me.b8) ∧ Below w.heap.size w w' := by
  have hz70 := zero70
  have HL := Lib.hid hl
  clear hl
  unfold maxLen at hcm
  go_enter Try.func35, Try.ntmps35
  go_wp2_with fail
  refine (init_any _ _ 0 wrCells _ ?hb wrCells_size).mono ?_
  case hb => exact (Me.Blk.new w 70 wrCells).alloc _
  rintro e w' ⟨rfl, rfl⟩
  go_wp2_with fail
  go_loopw [11] (fun k wr => ∃ (j : Nat) (W : Pu.Wr) (b s : Pu.Bs), k = .int .i64 j ∧ j ≤ l.length ∧ WrAt wr w.heap.size (w.heap.size + 1) w.heap.size W ∧ Pu.Good W b s ∧ Hid (Pu.ofL s (l.drop j) = some sf) ∧ Hid (W.steps (l.drop j) = Pu.Wr.empty.steps l) ∧ W.phi ≤ 64 * j ∧ Below w.heap.size w wr)
    (fun k _ => l.length - (intOf k).toNat)
  case atStart =>
    refine ⟨0, .empty, .empty, .empty, rfl, Nat.zero_le _, ⟨wrCells.setIfInBounds 0 (keeper (w.heap.size + 1)), (Me.Blk.new w 70 _).alloc _, wrCells_ok _, ⟨.slice none 0 0, ?_, World.ownsRow_nil _ _ _ _⟩⟩, Pu.good_empty, HL, rfl, by simp [Pu.Wr.phi, Pu.Wr.empty], ((Below.refl _ _).alloc (Nat.le_refl _) _).alloc (by simp) _⟩
    have := Me.Blk.new (w.alloc (Obj.cells (wrCells.setIfInBounds 0 (keeper (w.heap.size + 1))) 70)) 22 #[Value.slice none 0 0]
    rw [World.size_alloc] at this
    exact this
  case round =>
    obtain ⟨j, W, b, s, rfl, hj, hw, hg, HO, HW, hphi, hbel⟩ := hrel
    by_cases hlt : j < l.length
    · obtain ⟨o, ho⟩ : ∃ o, l[j]? = some o := ⟨l[j], List.getElem?_eq_getElem hlt⟩
      have hdr : l.drop j = o :: l.drop (j + 1) := by
        rw [List.drop_eq_getElem_cons hlt]
        rw [List.getElem?_eq_getElem hlt] at ho
        injection ho with ho
        rw [ho]
      obtain ⟨s1, hs1, hrest⟩ : ∃ s1, Pu.ofStep s o = some s1 ∧ Pu.ofL s1 (l.drop (j + 1)) = some sf := by
        have h := HO.out
        rw [hdr] at h
        simp only [Pu.ofL] at h
        cases hs : Pu.ofStep s o with
        | none => rw [hs] at h; cases h
        | some s1 => rw [hs] at h; exact ⟨s1, rfl, h⟩
      obtain ⟨b1, hg1⟩ := hg.step hs1
      have hph1 := Pu.step_phi (w := W) hs1
      have HW1 := Lib.hid (show (W.step o).steps (l.drop (j + 1)) = Pu.Wr.empty.steps l by have h := HW.out; rw [hdr] at h; exact h)
      have HO1 := Lib.hid hrest
      have HS1 := Lib.hid hs1
      obtain ⟨q1, q2, q3⟩ := opCells_get (l := l.map conv) (k := j) (o := conv o) (by rw [List.getElem?_map, ho]; rfl)
      obtain ⟨bb, off, rfl, hbb, hcells⟩ : ∃ bb off, A = some ⟨bb, off, none⟩ ∧ bb < w.heap.size ∧ Hid (∀ k u, (opCells (l.map conv))[k]? = some u → w.cell? ⟨bb, off + k, none⟩ = some u) := by
        rcases hS with h | ⟨bb, off, e, hb, hcl⟩
        · rw [h] at q1; simp at q1
        · exact ⟨bb, off, e, hb, hcl⟩
      have k1 : wr.cell? ⟨bb, off + j * 3, none⟩ = some (.int .i64 (kindOf o.kind)) := (hbel.cell (p := ⟨bb, off + j * 3, none⟩) hbb).trans (hcells.out _ _ q1)
      have k2 : wr.cell? ⟨bb, off + j * 3 + 1, none⟩ = some (.int .i64 o.n) := (hbel.cell (p := ⟨bb, off + j * 3 + 1, none⟩) hbb).trans (hcells.out _ _ q2)
      have k3 : wr.cell? ⟨bb, off + j * 3 + 2, none⟩ = some (.int .i64 o.c) := (hbel.cell (p := ⟨bb, off + j * 3 + 2, none⟩) hbb).trans (hcells.out _ _ q3)
      clear ho hdr hs1 hrest q1 q2 q3
      have hix := hg.index
      have HIX := Lib.hid hix
      have hmx := hg.max
      have hob : W.out.length ≤ W.phi := by unfold Pu.Wr.phi; omega
      have hxs : W.index ≤ 1152921504606846976 := by omega
      clear hix
      rcases Pu.step_cases HS1.out with ⟨N, e1, e2, h1, h2⟩ | ⟨N, e1, e2, h1, h2⟩ | ⟨N, C, e1, e2, e3, h1, h2, h3⟩
      · obtain ⟨kd, n, cc⟩ := o
        simp only at e1 e2
        subst e1 e2
        have k0 : wr.cell? ⟨bb, off + j * 3, none⟩ = some (.int .i64 0) := k1
        clear k1
        have hWp : W.step ⟨0, (N : Int), cc⟩ = W.ptr N := by unfold Pu.Wr.step; simp
        rw [hWp] at hg1 hph1 HW1
        clear hWp
        have hzi : (W.zero N).index < 4611686018427387904 := by
          have h := hg1.index
          unfold Pu.Wr.ptr at h
          rw [lit_index] at h
          have := hg1.max
          omega
        go_wp2_with fail
        refine (ptr_any w.heap.size (w.heap.size + 1) w.heap.size W N _ (Nat.le_refl _) (by omega) (hw.below ((Below.refl _ _).alloc (Nat.le_refl _) _)) (by omega) (by omega) (by have := HIX.out; omega) hzi).mono ?_
        rintro e w1 ⟨rfl, hw1, hb1⟩
        go_wp2
        go_roundw
        case rel => exact ⟨j + 1, W.ptr N, b1, s1, by go_num, by omega, hw1, hg1, HO1.out, HW1.out, by omega, (hbel.alloc hbel.size _).trans hb1⟩
        case measure => simp [intOf]; omega
      · obtain ⟨kd, n, cc⟩ := o
        simp only at e1 e2
        subst e1 e2
        have k0 : wr.cell? ⟨bb, off + j * 3, none⟩ = some (.int .i64 2) := k1
        clear k1
        have hWp : W.step ⟨1, (N : Int), cc⟩ = W.zero N := by unfold Pu.Wr.step; simp
        rw [hWp] at hg1 hph1 HW1
        clear hWp
        go_wp2_with fail
        refine (zero_any w.heap.size (w.heap.size + 1) w.heap.size W N _ (Nat.le_refl _) (by omega) (hw.below ((Below.refl _ _).alloc (Nat.le_refl _) _)) (by omega) (by omega) (by have := HIX.out; omega)).mono ?_
        rintro e w1 ⟨rfl, hw1, hb1⟩
        go_wp2
        go_roundw
        case rel => exact ⟨j + 1, W.zero N, b1, s1, by go_num, by omega, hw1, hg1, HO1.out, HW1.out, by omega, (hbel.alloc hbel.size _).trans hb1⟩
        case measure => simp [intOf]; omega
      · obtain ⟨kd, n, cc⟩ := o
        simp only at e1 e2 e3
        subst e1 e2 e3
        have k0 : wr.cell? ⟨bb, off + j * 3, none⟩ = some (.int .i64 1) := k1
        clear k1
        have hWp : W.step ⟨2, (N : Int), (C : Int)⟩ = W.rep N C := by unfold Pu.Wr.step; simp
        rw [hWp] at hg1 hph1 HW1
        clear hWp
        have hm : C ≤ N * C := Nat.le_mul_of_pos_left C (by omega)
        have hC : C < 4611686018427387904 := by omega
        have HIC := Lib.hid (show W.index + N * C < 4611686018427387904 by have := HIX.out; omega)
        clear hm h3
        go_wp2_with fail
        refine (rep_any w.heap.size (w.heap.size + 1) w.heap.size W N C _ (Nat.le_refl _) (by omega) (hw.below ((Below.refl _ _).alloc (Nat.le_refl _) _)) (by omega) (by omega) hC HIC.out).mono ?_
        rintro e w1 ⟨rfl, hw1, hb1⟩
        go_wp2
        go_roundw
        case rel => exact ⟨j + 1, W.rep N C, b1, s1, by go_num, by omega, hw1, hg1, HO1.out, HW1.out, by omega, (hbel.alloc hbel.size _).trans hb1⟩
        case measure => simp [intOf]; omega
    · obtain rfl : j = l.length := by omega
      have hWe := HW.out
      rw [List.drop_length] at hWe
      have HWE := Lib.hid (show W = Pu.Wr.empty.steps l from hWe)
      clear hWe
      go_wp2_with fail
      refine (end_any w.heap.size (w.heap.size + 1) w.heap.size W _ (Nat.le_refl _) (by omega) hw (by omega)).mono ?_
      rintro e w1 ⟨rfl, ⟨v, hgo, hown⟩, hb1⟩
      have d0 : w1.cell? ⟨w.heap.size + 1, 0, none⟩ = some v := hgo.cell 0
      go_wp2
      go_ret
      refine ⟨v, rfl, ?_, hbel.trans hb1⟩
      unfold Pu.prog
      rw [← HWE.out]
      exact hown

/-- the same, the slice written out -/
theorem gprog_sl (A : Option Addr) (c : Nat) (l : List Pu.Op) (sf : Pu.Bs) (w : World) (hc : l.length ≤ c) (hcm : c ≤ maxLen) (hlen : l.length < 8589934592) (hS : Me.Sl w w.heap.size A (opCells (l.map conv))) (hl : Pu.ofL .empty l = some sf) :
    Calls Try.prog 35 #[.slice A l.length c] w fun e w' => ∃ PA PC, e = .returned (.slice PA (Pu.prog l).length PC) ∧ (Pu.prog l).length ≤ PC ∧ PC ≤ maxLen ∧ Me.Sl w' w'.heap.size PA ((Pu.prog l).map Me.b8) ∧ Below w.heap.size w w' :=
  (gprog_any A c l sf w hc hcm hlen hS hl).mono fun e w' ⟨v, he, hown, hb⟩ => by
    obtain ⟨PA, PC, rfl, h1, h2⟩ := Me.own_shape hown
    exact ⟨PA, PC, he, h1, h2, Me.Sl.of_own hown, hb⟩

theorem kind_any (k : Int) (w : World) : Calls Try.prog 34 #[.int .i64 k] w fun e w' => e = .returned (.int .i64 (kindOf k)) ∧ w = w' := by
  have HK := Lib.hid (show kindOf k = if k = 2 then 1 else if k = 1 then 2 else 0 from rfl)
  by_cases h2 : k = 2
  · subst h2
    go_enter Try.func34, Try.ntmps34
    go_wp2
    go_ret
    exact ⟨ret_int (by rw [HK.out]; rfl), rfl⟩
  · have hz2 : (k == 2) = false := beq_eq_false_iff_ne.2 h2
    by_cases h1 : k = 1
    · subst h1
      go_enter Try.func34, Try.ntmps34
      go_wp2
      go_ret
      exact ⟨ret_int (by rw [HK.out]; rfl), rfl⟩
    · have hz1 : (k == 1) = false := beq_eq_false_iff_ne.2 h1
      go_enter Try.func34, Try.ntmps34
      go_wp2
      go_ret
      exact ⟨ret_int (by rw [HK.out, if_neg h2, if_neg h1]), rfl⟩
end Go.Proofs.Ytnkkpdpjkfjmnaa
