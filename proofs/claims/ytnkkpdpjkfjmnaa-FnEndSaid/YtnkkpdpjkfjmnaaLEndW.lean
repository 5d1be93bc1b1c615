/-
  The walk of the law FnEnd.
-/
import Derived.Test.YtnkkpdpjkfjmnaaWSame
import Derived.Test.YtnkkpdpjkfjmnaaOpen
namespace Go.Proofs.Ytnkkpdpjkfjmnaa
open Go.RowKit
set_option linter.unusedVariables false

theorem Me.Sl.take {w : World} {B : Nat} {A : Option Addr} {xs : List Value} (h : Me.Sl w B A xs) (k : Nat) : Me.Sl w B A (xs.take k) := by
  rcases h with h | ⟨b, off, e, hb, hc⟩
  · exact .inl (by rw [h]; simp)
  · refine .inr ⟨b, off, e, hb, fun j u hj => hc j u ?_⟩
    rw [List.getElem?_take] at hj
    split at hj
    · exact hj
    · cases hj

theorem Pu.prog_last (l : List Pu.Op) : 0 < (Pu.prog l).length ∧ (Pu.prog l)[(Pu.prog l).length - 1]? = some 0 := by
  unfold Pu.prog
  constructor <;> simp

namespace fnEnd
set_option maxHeartbeats 2000000 in
theorem walk (a0 : Option Addr) (len0 cap0 : Nat) (z0 : List Pu.Op) (w : World) (w0 : IsOps w a0 len0 cap0 z0) :
    Calls Try.prog 6 #[.slice a0 len0 cap0] w fun e w' => e = .returned (.bool true) ∧ Below w.heap.size w w' := by
  obtain ⟨hll, hl, hm, hf, hS⟩ := w0
  subst hll
  unfold maxLen at hm
  by_cases hbig : 2147483647 < z0.length
  · go_enter Try.func6, Try.ntmps6
    go_wp2
    go_ret
    exact ⟨rfl, Below.refl _ _⟩
  · go_enter Try.func6, Try.ntmps6
    go_wp2_with fail
    refine (of_any a0 cap0 z0 w hl (by unfold maxLen; omega) (by omega) hf hS).mono ?_
    rintro e w1 ⟨hb1, hm1⟩
    cases hr : Pu.ofL .empty z0 with
    | none =>
      rw [hr] at hm1
      obtain ⟨PA, n, PC, L, rfl⟩ := hm1
      clear hr
      go_wp2_with fail
      go_ret
      exact ⟨rfl, hb1.alloc hb1.size _⟩
    | some s =>
      rw [hr] at hm1
      obtain ⟨PA, PC, rfl, hpv, hlong⟩ := hm1
      have HR := Lib.hid hr
      have H8 := Lib.hid (Pu.prog_lt hr)
      have hpl := Pu.prog_len hr
      clear hr hf
      have hbel1 : Below w.heap.size w (w1.alloc (Obj.cells #[Value.slice PA s.parts.length PC, Value.int IntKind.i64 ↑s.long] 30)) := hb1.alloc hb1.size _
      have hS1 := ((hS.below hb1 (Nat.le_refl _)).alloc hb1.size (Obj.cells #[Value.slice PA s.parts.length PC, Value.int IntKind.i64 ↑s.long] 30)).more (B' := (w1.alloc (Obj.cells #[Value.slice PA s.parts.length PC, Value.int IntKind.i64 ↑s.long] 30)).heap.size) (by have := hb1.size; simp; omega)
      go_wp2_with fail
      refine (iprog_any a0 cap0 z0 s _ hl (by unfold maxLen; omega) (by omega) hS1 HR.out).mono ?_
      rintro e w2 ⟨QA, QC, rfl, g1, g2, g3, hb2⟩
      have hbel2 : Below w.heap.size w w2 := hbel1.trans (hb2.mono (by have := hb1.size; simp; omega))
      obtain ⟨hp0, hp1⟩ := Pu.prog_last z0
      obtain ⟨qb, qo, rfl, hqb, hqc⟩ : ∃ b off, QA = some ⟨b, off, none⟩ ∧ b < w2.heap.size ∧ w2.cell? ⟨b, off + ((Pu.prog z0).length - 1), none⟩ = some (.int .u8 0) := by
        rcases g3 with h | ⟨b, off, e, hb, hc⟩
        · have := congrArg List.length h
          simp at this
          rw [this] at hp0
          simp at hp0
        · refine ⟨b, off, e, hb, hc _ _ ?_⟩
          simp [hp1, Me.b8]
      have HP := Lib.hid (fun i hi => Pu.prog_prefix (i := i) HR.out hi)
      have HN : ∀ n, (Pu.prog z0).length = n → Hid ((Pu.prog z0).length = n) := fun n h => h
      obtain ⟨n, hn⟩ : ∃ n, (Pu.prog z0).length = n := ⟨_, rfl⟩
      have HN := Lib.hid hn
      rw [hn] at g1 hpl hp0 hqc ⊢
      unfold maxLen at g2
      clear hn hp1
      go_wp2_with fail
      go_loopw [23] (fun k wr => ∃ j : Nat, k = .int .i64 j ∧ j ≤ n ∧ Below w2.heap.size w2 wr)
        (fun k _ => n - (intOf k).toNat)
      case atStart => exact ⟨0, rfl, Nat.zero_le _, Below.refl _ _⟩
      case round =>
        obtain ⟨j, rfl, hj, hbel⟩ := hrel
        by_cases hlt : j < n
        · have hS3 := ((g3.below hbel (Nat.le_refl _)).more hbel.size).take j
          go_wp2_with fail
          have hr3 := read_any ((Pu.prog z0).take j) (some ⟨qb, qo, none⟩) QC wr (by simp; omega) (by unfold maxLen; omega) (by simp; omega) (fun x hx => H8.out x (List.mem_of_mem_take hx)) (by rw [List.map_take]; exact hS3)
          rw [HP.out j (by rw [HN.out]; exact hlt), show ((Pu.prog z0).take j).length = j by simp [HN.out]; omega] at hr3
          refine hr3.mono ?_
          rintro e w3 ⟨hb3, RA, m, RC, L, rfl⟩
          clear hr3
          go_wp2_with fail
          go_roundw
          case rel => exact ⟨j + 1, rfl, by omega, (hbel.trans (hb3.mono hbel.size)).alloc (by have := hb3.size; have := hbel.size; omega) _⟩
          case measure => simp [intOf]; omega
        · obtain rfl : j = n := by omega
          have hqc2 : wr.cell? ⟨qb, qo + (j - 1), none⟩ = some (.int .u8 0) := (hbel.cell (p := ⟨qb, qo + (j - 1), none⟩) hqb).trans hqc
          go_wp2
          go_ret
          exact ⟨rfl, hbel2.trans (hbel.mono (by have := hbel2.size; omega))⟩
end fnEnd
end Go.Proofs.Ytnkkpdpjkfjmnaa
