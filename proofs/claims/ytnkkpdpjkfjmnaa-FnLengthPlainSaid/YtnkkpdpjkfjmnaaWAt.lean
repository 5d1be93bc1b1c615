/-
  The contract of Bits.At: the bit at a place.
-/
import Derived.Test.YtnkkpdpjkfjmnaaWPlace
import Derived.Test.YtnkkpdpjkfjmnaaBMem
import Derived.Test.YtnkkpdpjkfjmnaaWf
import Derived.Deep.QuietTactic
import Derived.BigQuiet
import Derived.WalkSpells
namespace Go.Proofs.Ytnkkpdpjkfjmnaa
open Go.RowKit
set_option linter.unusedVariables false

/-- the cells of the part at k -/
theorem part_cells {w : World} {B : Nat} {A : Option Addr} {c n : Nat} {ps : List Pu.Part} {k : Nat} {p : Pu.Part} (h : Me.PartsV w B (.slice A n c) ps) (hp : ps[k]? = some p) :
    ∃ g lv, A = some ⟨g, 0, none⟩ ∧ g < w.heap.size ∧ w.cell? ⟨g, k * 4, none⟩ = some (.int .i64 (p.start : Int)) ∧ w.cell? ⟨g, k * 4 + 1, none⟩ = some (.int .i64 (p.long : Int)) ∧ w.cell? ⟨g, k * 4 + 2, none⟩ = some lv ∧ w.cell? ⟨g, k * 4 + 3, none⟩ = some (.int .i64 (p.back : Int)) ∧ Me.ListV w lv p.list := by
  obtain ⟨xs, hown, hx⟩ := h
  obtain ⟨lv, h1, h2, h3, h4, h5⟩ := hx k p hp
  have hk : k < ps.length := (List.getElem?_eq_some_iff.1 hp).1
  rcases hown.2 with ⟨_, hn⟩ | ⟨g, cap, cur, hv, _, hg, q1, _, _, ht⟩
  · omega
  · injection hv with hA
    subst hA
    have hc : ∀ j u, xs[j]? = some u → w.cell? ⟨g, j, none⟩ = some u := by
      intro j u hu
      rw [cell_of_row w g j cur 56 (0, 0) hg]
      rw [← ht, List.getElem?_take] at hu
      split at hu
      · simpa using hu
      · cases hu
    rw [Nat.mul_comm k 4]
    exact ⟨g, lv, rfl, (Array.getElem?_eq_some_iff.1 hg).1, hc _ _ h1, hc _ _ h2, hc _ _ h3, hc _ _ h4, h5⟩

theorem list_cells {w : World} {lv : Value} {l : List Bool} (h : Me.ListV w lv (some l)) : ∃ A c, lv = .slice A l.length c ∧ Me.Sl w w.heap.size A (l.map .bool) := by
  rcases h with ⟨h, _⟩ | ⟨bs, e, hne, hown⟩
  · cases h
  · injection e with e
    subst e
    obtain ⟨A, c, rfl, _⟩ := Me.own_shape hown
    exact ⟨A, c, rfl, Me.Sl.of_own hown⟩

theorem back_int {s b j : Nat} (h1 : b ≤ s) (h2 : s ≤ j) : ((s : Int) - (b : Int) + ((j : Int) - (s : Int)) % (b : Int)) = ((s - b + (j - s) % b : Nat) : Int) := by
  rw [Int.natCast_add, Int.natCast_sub h1, Int.natCast_emod, Int.natCast_sub h2]

set_option maxRecDepth 100000 in
set_option maxHeartbeats 4000000 in
theorem at_any (b : Pu.Bs) (A : Option Addr) (c i B : Nat) (w : World) (hp : Me.PartsV w B (.slice A b.parts.length c) b.parts) (hwf : Pu.Wf b) (hi : i < b.long) (hlong : b.long ≤ 1152921504606846976) :
    Calls Try.prog 24 #[.agg #[.slice A b.parts.length c, .int .i64 (b.long : Int)], .int .i64 i] w fun e w' => e = .returned (.bool (Pu.bit b i)) ∧ Below w.heap.size w w' := by
  have HW := Lib.hid hwf
  clear hwf
  have hlen : b.parts.length ≤ 9223372036854775807 := by
    obtain ⟨xs, ho, _⟩ := hp
    have := Me.own_cap ho
    simp only [maxLen] at this
    omega
  go_enter Try.func24, Try.ntmps24
  go_wp2
  go_loopw [1, 5] (fun s k wr => ∃ (m j : Nat) (kk : Int), k = .int .i64 kk ∧ s = .int .i64 j ∧ Hid (kk = (m : Int) - 1) ∧ m ≤ b.parts.length ∧ j ≤ 1152921504606846976 ∧ Hid (j < Pu.total (b.parts.take m)) ∧ Hid (Pu.atR (b.parts.take m).reverse j = Pu.bit b i) ∧ Me.Blk wr w.heap.size 30 #[.slice A b.parts.length c, .int .i64 (b.long : Int)] ∧ Below w.heap.size w wr)
    (fun _ k _ => (intOf k + 1).toNat)
  case atStart =>
    refine ⟨b.parts.length, i, _, rfl, rfl, rfl, Nat.le_refl _, by omega, ?_, ?_, Me.Blk.new _ _ _, (Below.refl _ _).alloc (Nat.le_refl _) _⟩
    · unfold Hid; rw [List.take_length, ← HW.out.long]; exact hi
    · unfold Hid; rw [List.take_length]; rfl
  case round =>
    obtain ⟨m, j, kk, rfl, rfl, HK, hm, hj60, HJ, HB, hbx, hbel⟩ := hrel
    rcases m with _ | m
    · exact absurd HJ.out (by simp [Pu.total])
    · have hkk := HK.out
      obtain rfl : kk = (m : Int) := by omega
      clear HK hkk
      obtain ⟨p, hpm⟩ : ∃ p, b.parts[m]? = some p := ⟨b.parts[m], List.getElem?_eq_getElem (by omega)⟩
      obtain ⟨g, lv, rfl, hg, k0, k1, k2, k3, hlv⟩ := part_cells hp hpm
      obtain ⟨w1, w2, w3⟩ := HW.out.part m p hpm
      have htk : b.parts.take (m + 1) = b.parts.take m ++ [p] := by
        rw [List.take_succ_eq_append_getElem (by omega)]
        rw [List.getElem?_eq_getElem (by omega)] at hpm
        injection hpm with hpm
        rw [hpm]
      have hjt := HJ.out
      have hat := HB.out
      rw [htk, Pu.total_append, ← w1] at hjt
      simp only [Pu.total, Nat.add_zero] at hjt
      rw [htk, List.reverse_append] at hat
      simp only [List.reverse_cons, List.reverse_nil, List.nil_append, List.singleton_append, Pu.atR] at hat
      have HAT := Lib.hid hat
      have HW1 := Lib.hid w1
      have HPM := Lib.hid hpm
      have HTK := Lib.hid htk
      have W3 := Lib.hid w3
      clear hat w1 hpm htk w3
      obtain ⟨LA, Ln, LC, hlve⟩ : ∃ LA Ln LC, lv = .slice LA Ln LC := by
        rcases hlv with ⟨_, e⟩ | ⟨bs, _, _, ho⟩
        · exact ⟨none, 0, 0, e⟩
        · obtain ⟨A2, c2, e, _⟩ := Me.own_shape ho
          exact ⟨A2, _, c2, e⟩
      subst hlve
      have d0 : wr.cell? ⟨g, m * 4, none⟩ = some (.int .i64 (p.start : Int)) := (hbel.cell (p := ⟨g, m * 4, none⟩) hg).trans k0
      have d1 : wr.cell? ⟨g, m * 4 + 1, none⟩ = some (.int .i64 (p.long : Int)) := (hbel.cell (p := ⟨g, m * 4 + 1, none⟩) hg).trans k1
      have d2 : wr.cell? ⟨g, m * 4 + 2, none⟩ = some (.slice LA Ln LC) := (hbel.cell (p := ⟨g, m * 4 + 2, none⟩) hg).trans k2
      have d3 : wr.cell? ⟨g, m * 4 + 3, none⟩ = some (.int .i64 (p.back : Int)) := (hbel.cell (p := ⟨g, m * 4 + 3, none⟩) hg).trans k3
      have e0 : wr.cell? ⟨w.heap.size, 0, none⟩ = some (.slice (some ⟨g, 0, none⟩) b.parts.length c) := hbx.cell 0
      have hlt := hbx.lt
      have HBX := Lib.hid hbx
      clear k0 k1 k2 k3 hbx HJ HB
      by_cases hjs : j < p.start
      · have HA := Lib.hid (show Pu.atR (b.parts.take m).reverse j = Pu.bit b i by rw [← HAT.out, if_pos hjs])
        go_wp2
        go_roundw
        case rel => exact ⟨m, j, _, rfl, rfl, rfl, by omega, hj60, by rw [← HW1.out]; exact hjs, HA.out, HBX.out.alloc _, hbel.alloc (by omega) _⟩
        case measure => simp [intOf]
      · have hjp : p.start ≤ j := by omega
        by_cases hback : 0 < p.back
        · have hm1 : 0 ≤ ((j : Int) - (p.start : Int)) % (p.back : Int) := Int.emod_nonneg _ (by omega)
          have hm2 : ((j : Int) - (p.start : Int)) % (p.back : Int) < (p.back : Int) := Int.emod_lt_of_pos _ (by omega)
          go_wp2
          go_quiet (fail)
          go_wp2
          go_roundw
          case rel =>
            have hb := back_int w2 hjp
            have hmn : (j - p.start) % p.back < p.back := Nat.mod_lt _ hback
            have HA := Lib.hid (show Pu.atR (b.parts.take m).reverse (p.start - p.back + (j - p.start) % p.back) = Pu.bit b i by rw [← HAT.out, if_neg hjs, if_pos hback])
            exact ⟨m, _, _, rfl, int_eq hb, rfl, by omega, by omega, by rw [← HW1.out]; unfold Hid; omega, HA.out, HBX.out.alloc _, Me.below_drewN (hbel.alloc (by omega) _) _⟩
          case measure => simp [intOf]
        · have hbk : p.back ≤ 0 := by omega
          cases hpl : p.list with
          | none =>
            rw [hpl] at hlv
            have hlvn : Value.slice LA Ln LC = .slice none 0 0 := by
              rcases hlv with ⟨_, e⟩ | ⟨bs, e, _⟩
              · exact e
              · cases e
            injection hlvn with q1 q2 q3
            subst q1 q2 q3
            have HA := Lib.hid (show false = Pu.bit b i by rw [← HAT.out, if_neg hjs, if_neg hback, hpl])
            have hneq := fun W => run_neq_slice_nil_any (P := Try.prog) W 53 4 none 0 0 0 0 Try.underlying53
            clear hpl hlv
            go_wp2
            go_ret
            exact ⟨congrArg (fun x => Ending.returned (Value.bool x)) HA.out, hbel.alloc (by omega) _⟩
          | some bs =>
            rw [hpl] at hlv
            have hbl := W3.out bs hpl
            obtain ⟨A2, c2, hlve, hS2⟩ := list_cells hlv
            injection hlve with q1 q2 q3
            subst q1 q2 q3
            obtain ⟨x, hx⟩ : ∃ x, bs[j - p.start]? = some x := ⟨bs[j - p.start]'(by omega), List.getElem?_eq_getElem (by omega)⟩
            obtain ⟨g2, o2, rfl, hg2, hc2⟩ : ∃ g2 o2, LA = some ⟨g2, o2, none⟩ ∧ g2 < w.heap.size ∧ w.cell? ⟨g2, o2 + (j - p.start), none⟩ = some (.bool x) := by
              rcases hS2 with h | ⟨g2, o2, e, hb, hcl⟩
              · simp at h; subst h; simp at hx
              · exact ⟨g2, o2, e, hb, hcl _ _ (by rw [List.getElem?_map, hx]; rfl)⟩
            have c3 : wr.cell? ⟨g2, o2 + (j - p.start), none⟩ = some (.bool x) := (hbel.cell (p := ⟨g2, o2 + (j - p.start), none⟩) hg2).trans hc2
            have HA := Lib.hid (show x = Pu.bit b i by rw [← HAT.out, if_neg hjs, if_neg hback, hpl]; simp [List.getD, hx])
            have hneq := fun W => run_neq_slice_nil_any (P := Try.prog) W 53 4 (some ⟨g2, o2, none⟩) bs.length LC 0 0 Try.underlying53
            have hjl : j - p.start < bs.length := by omega
            have hg3 : g2 < wr.heap.size := by omega
            have hji : (j : Int) - (p.start : Int) < (bs.length : Int) := by omega
            clear hpl hlv hS2 hc2 hx hbl
            go_wp2
            go_ret
            exact ⟨congrArg (fun x => Ending.returned (Value.bool x)) HA.out, hbel.alloc (by omega) _⟩
end Go.Proofs.Ytnkkpdpjkfjmnaa
