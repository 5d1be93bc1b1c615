/-
  The contract of impl.Program.
-/
import Derived.Test.YtnkkpdpjkfjmnaaWProg
import Derived.BigRegion
import Derived.Deep.RegionWith
import Derived.WalkSpells
namespace Go.Proofs.Ytnkkpdpjkfjmnaa
open Go.RowKit
set_option linter.unusedVariables false

theorem el62 : Me.Elem Try.prog 59 62 3 24 (.agg #[.int .i64 0, .int .i64 0, .int .i64 0]) := ⟨Try.underlying59, by kernel_rfl, rfl, by omega, by omega⟩

/-- the cells of the step at j -/
theorem op_cells {w : World} {B : Nat} {A : Option Addr} {l : List Pu.Op} {j : Nat} {o : Pu.Op} (hS : Me.Sl w B A (opCells l)) (ho : l[j]? = some o) :
    ∃ bb off, A = some ⟨bb, off, none⟩ ∧ bb < B ∧ w.cell? ⟨bb, off + j * 3, none⟩ = some (.int .i64 o.kind) ∧ w.cell? ⟨bb, off + j * 3 + 1, none⟩ = some (.int .i64 o.n) ∧ w.cell? ⟨bb, off + j * 3 + 2, none⟩ = some (.int .i64 o.c) := by
  obtain ⟨q1, q2, q3⟩ := opCells_get ho
  rcases hS with h | ⟨bb, off, e, hb, hcl⟩
  · rw [h] at q1; simp at q1
  · exact ⟨bb, off, e, hb, hcl _ _ q1, hcl _ _ q2, hcl _ _ q3⟩

set_option maxRecDepth 100000 in
set_option maxHeartbeats 4000000 in
theorem iprog_any (A : Option Addr) (c : Nat) (l : List Pu.Op) (sf : Pu.Bs) (w : World) (hc : l.length ≤ c) (hcm : c ≤ maxLen) (hlen : l.length < 8589934592) (hS : Me.Sl w w.heap.size A (opCells l)) (hl : Pu.ofL .empty l = some sf) :
    Calls Try.prog 25 #[.slice A l.length c] w fun e w' => ∃ PA PC, e = .returned (.slice PA (Pu.prog l).length PC) ∧ (Pu.prog l).length ≤ PC ∧ PC ≤ maxLen ∧ Me.Sl w' w'.heap.size PA ((Pu.prog l).map Me.b8) ∧ Below w.heap.size w w' := by
  have HL := Lib.hid hl
  clear hl
  unfold maxLen at hcm
  go_enter Try.func25, Try.ntmps25
  go_wp2
  go_loopw [3, 8] (fun v k wr => ∃ (j : Nat) (GA : Option Addr) (GC : Nat), k = .int .i64 j ∧ v = .slice GA j GC ∧ j ≤ l.length ∧ wr.ownsRow w.heap.size 62 3 (.slice GA j GC) j (opCells ((l.take j).map conv)) ∧ Below w.heap.size w wr)
    (fun _ k _ => l.length - (intOf k).toNat)
  case atStart => exact ⟨0, none, 0, rfl, rfl, Nat.zero_le _, World.ownsRow_nil _ _ _ _, Below.refl _ _⟩
  case round =>
    obtain ⟨j, GA, GC, rfl, rfl, hj, hown, hbel⟩ := hrel
    by_cases hlt : j < l.length
    · obtain ⟨o, ho⟩ : ∃ o, l[j]? = some o := ⟨l[j], List.getElem?_eq_getElem hlt⟩
      obtain ⟨bb, off, rfl, hbb, q1, q2, q3⟩ := op_cells hS ho
      have k1 : wr.cell? ⟨bb, off + j * 3, none⟩ = some (.int .i64 o.kind) := (hbel.cell (p := ⟨bb, off + j * 3, none⟩) hbb).trans q1
      have k2 : wr.cell? ⟨bb, off + j * 3 + 1, none⟩ = some (.int .i64 o.n) := (hbel.cell (p := ⟨bb, off + j * 3 + 1, none⟩) hbb).trans q2
      have k3 : wr.cell? ⟨bb, off + j * 3 + 2, none⟩ = some (.int .i64 o.c) := (hbel.cell (p := ⟨bb, off + j * 3 + 2, none⟩) hbb).trans q3
      have HT := Lib.hid (show (l.take (j + 1)) = l.take j ++ [o] by rw [List.take_succ_eq_append_getElem hlt]; rw [List.getElem?_eq_getElem hlt] at ho; injection ho with ho; rw [ho])
      clear ho q1 q2 q3
      go_wp2
      generalize hw2 : wr.alloc (Obj.cells #[Value.int IntKind.i64 o.kind, Value.int IntKind.i64 o.n, Value.int IntKind.i64 o.c] 45) = w2
      have b1 : Me.Blk w2 wr.heap.size 45 #[Value.int IntKind.i64 o.kind, Value.int IntKind.i64 o.n, Value.int IntKind.i64 o.c] := by rw [← hw2]; exact Me.Blk.new _ _ _
      have hbel2 : Below w.heap.size w w2 := by rw [← hw2]; exact hbel.alloc hbel.size _
      have hown2 : w2.ownsRow w.heap.size 62 3 (.slice GA j GC) j (opCells ((l.take j).map conv)) := by rw [← hw2]; exact hown.alloc _
      have hlt2 : wr.heap.size < w2.heap.size := b1.lt
      clear hw2
      have d0 : w2.cell? ⟨wr.heap.size, 0, none⟩ = some (.int .i64 o.kind) := b1.cell 0
      have d1 : w2.cell? ⟨wr.heap.size, 1, none⟩ = some (.int .i64 o.n) := b1.cell 1
      have d2 : w2.cell? ⟨wr.heap.size, 2, none⟩ = some (.int .i64 o.c) := b1.cell 2
      have HO3 := Lib.hid (Me.ones3 (x := .int .i64 (kindOf o.kind)) (y := .int .i64 o.n) (z := .int .i64 o.c) rfl rfl rfl)
      have hsz := hbel2.size
      have hjb : (j + 1) * 24 ≤ 140737488355328 := by omega
      go_region_law (first | (refine Me.step_app_drew el62 rfl hown2 _ _ rfl rfl rfl rfl HO3.out hjb hsz ?_; intro A2 c2 w3 hc2 hcm2 hown3 hg3) | (go_simp; go_at_call 34; refine (kind_any _ _).mono ?_; rintro e w' ⟨rfl, rfl⟩))
      all_goals
        go_wp2
        go_roundw
        case rel =>
          refine ⟨j + 1, A2, c2, by go_num, rfl, by omega, ?_, hbel2.grown hg3 hsz (fun k hk => (hown2.lt k hk).1)⟩
          rw [HT.out, List.map_append, opCells_append]
          exact hown3
        case measure => simp [intOf]; omega
    · obtain rfl : j = l.length := by omega
      have hS2 : Me.Sl wr wr.heap.size GA (opCells (l.map conv)) := by
        have h := Me.Sl.of_ownN hown
        rw [List.take_length] at h
        exact h
      obtain ⟨h1, h2⟩ := Me.own_cap hown
      go_wp2_with fail
      refine (gprog_sl GA GC l sf wr h1 h2 hlen hS2 HL.out).mono ?_
      rintro e w1 ⟨PA, PC, rfl, g1, g2, g3, g4⟩
      go_wp2
      go_ret
      exact ⟨PA, PC, rfl, g1, g2, g3, hbel.trans (g4.mono hbel.size)⟩
end Go.Proofs.Ytnkkpdpjkfjmnaa
