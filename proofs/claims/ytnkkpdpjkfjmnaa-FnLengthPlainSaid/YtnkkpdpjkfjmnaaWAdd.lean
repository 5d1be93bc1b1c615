/-
  The contracts of Bits.add and Bits.again.
-/
import Derived.Test.YtnkkpdpjkfjmnaaWPlace
import Derived.Test.YtnkkpdpjkfjmnaaBMem
import Derived.Deep.QuietTactic
import Derived.BigQuiet
import Derived.BigRegion
import Derived.Deep.RegionLaw
import Derived.Deep.RegionLawGrows
import Derived.WalkSpells
namespace Go.Proofs.Ytnkkpdpjkfjmnaa
open Go.RowKit
set_option linter.unusedVariables false

theorem el56 : Me.Elem Try.prog 28 56 4 48 (.agg #[.int .i64 0, .int .i64 0, .slice none 0 0, .int .i64 0]) := ⟨Try.underlying28, by kernel_rfl, rfl, by omega, by omega⟩

/-- what add may change -/
def AddM (g : Nat) (k : Nat) (t : TypeId) : Prop := k = g ∨ t = 56

/-- what add answers -/
def AddPost (w : World) (g B : Nat) (b : Pu.Bs) (r : Option Pu.Bs) (e : Ending) (w' : World) : Prop :=
  Me.Fr B (AddM g) w w' ∧ match r with
    | some b' => e = .returned (.bool true) ∧ Me.BitsAt w' g B b'
    | none => e = .returned (.bool false) ∧ Me.BitsAt w' g B b

set_option maxHeartbeats 1000000 in
theorem add_any (g B : Nat) (b : Pu.Bs) (n back : Nat) (l : Option (List Bool)) (lv : Value) (w : World) (hB : B ≤ g) (hb : Me.BitsAt w g B b) (hl : Me.ListV w lv l)
    (hlong : b.long ≤ 1152921504606846976) (hn : n < 9223372036854775808) (hback : back < 9223372036854775808) (hp : b.parts.length < 2199023255552) :
    Calls Try.prog 30 #[.pointer (some ⟨g, 0, none⟩), .agg #[.int .i64 0, .int .i64 n, lv, .int .i64 back]] w (AddPost w g B b (Pu.add b n l back)) := by
  obtain ⟨pv, hblk, hpv⟩ := hb
  have hg := hblk.lt
  have c0 : w.cell? ⟨g, 0, none⟩ = some pv := hblk.cell 0
  have c1 : w.cell? ⟨g, 1, none⟩ = some (.int .i64 (b.long : Int)) := hblk.cell 1
  have f0 := hblk.frozen 0
  have f1 := hblk.frozen 1
  by_cases hbig : 1152921504606846976 < b.long + n
  · have hlt : decide ((n : Int) < 0) = false := by simp
    have HA := Lib.hid (show Pu.add b n l back = none by unfold Pu.add; rw [if_pos hbig])
    go_enter Try.func30, Try.ntmps30
    go_wp2
    go_quiet (fail)
    go_wp2
    go_ret
    rw [HA.out]
    exact ⟨((Me.Fr.refl).alloc (by omega) _).drewN _, rfl, pv, (hblk.alloc _), hpv.below (Me.below_drewN ((Below.refl _ _).alloc (Nat.le_refl _) _) _)⟩
  · have hlt : decide ((n : Int) < 0) = false := by simp
    by_cases hn0 : 0 < n
    · have HA := Lib.hid (show Pu.add b n l back = some ⟨b.parts ++ [⟨b.long, n, l, back⟩], b.long + n⟩ by unfold Pu.add; rw [if_neg hbig, if_pos hn0])
      obtain ⟨xs, hown, hxs⟩ := hpv
      have HX := Lib.hid hxs
      have HO := hown.lt
      clear hxs
      go_enter Try.func30, Try.ntmps30
      go_wp2
      go_quiet (fail)
      go_wp2
      generalize hw1 : ((w.alloc (Obj.cells #[Value.int IntKind.i64 0, Value.int IntKind.i64 ↑n, lv, Value.int IntKind.i64 ↑back] 56)).drewN nq).setCell { block := w.heap.size, off := 0 } (Value.int IntKind.i64 ↑b.long) = w1
      have b1 : Me.Blk w1 w.heap.size 56 #[.int .i64 (b.long : Int), .int .i64 n, lv, .int .i64 back] := by
        rw [← hw1]
        exact (Me.Blk.new w 56 _).set_ 0 _
      have fr1 : Me.Fr B (AddM g) w w1 := by
        rw [← hw1]
        exact (((Me.Fr.refl).alloc (by omega) _).drewN _).setCell _ (by show B ≤ w.heap.size; omega) (.inr (Nat.le_refl _))
      have bl1 : Below w.heap.size w w1 := by
        rw [← hw1]
        exact Below.setCell (Me.below_drewN ((Below.refl _ _).alloc (Nat.le_refl _) _) _) (Nat.le_refl _) _
      have hs1 : w1.heap.size = w.heap.size + 1 := by rw [← hw1]; simp [World.setCell]
      clear hw1
      have hlt1 : w.heap.size < w1.heap.size := by omega
      have HS1 := Lib.hid hs1
      clear hs1
      have HL1 := Lib.hid (Me.ones4 (x := .int .i64 (b.long : Int)) (y := .int .i64 (n : Int)) (z := lv) (t := .int .i64 (back : Int)) rfl rfl hl.oneCell rfl)
      have hblk1 : Me.Blk w1 g 30 #[pv, Value.int IntKind.i64 ↑b.long] := hblk.below bl1 hg
      have hown1 := Me.own_below hown bl1 (Nat.le_refl _)
      have c0 : w1.cell? ⟨g, 0, none⟩ = some pv := hblk1.cell 0
      have c1 : w1.cell? ⟨g, 1, none⟩ = some (.int .i64 (b.long : Int)) := hblk1.cell 1
      have f0 := hblk1.frozen 0
      have f1 := hblk1.frozen 1
      have d0 : w1.cell? ⟨w.heap.size, 0, none⟩ = some (.int .i64 (b.long : Int)) := b1.cell 0
      have d1 : w1.cell? ⟨w.heap.size, 1, none⟩ = some (.int .i64 n) := b1.cell 1
      have d2 : w1.cell? ⟨w.heap.size, 2, none⟩ = some lv := b1.cell 2
      have d3 : w1.cell? ⟨w.heap.size, 3, none⟩ = some (.int .i64 back) := b1.cell 3
      have HN := Lib.hid (Me.own_ne hown1 hblk1 (by decide))
      have hg1 : g < w1.heap.size := by omega
      have HNb := Lib.hid (show some w.heap.size ≠ pv.ownBlock from fun e => by have := (HO _ e.symm).2; omega)
      clear HO
      have HBk := Lib.hid hblk1
      have HB1 := Lib.hid b1
      clear hblk1 b1
      go_region_law (refine Me.step_app_drew el56 rfl hown1 _ _ rfl rfl rfl rfl HL1.out (by omega) (by omega) ?_; intro A2 c2 w2 hc2 hcm2 hown2 hg2; have e0 : w2.cell? ⟨g, 0, none⟩ = some pv := (HBk.out.grown hg2 HN.out).cell 0; have k0 := (HBk.out.grown hg2 HN.out).frozen 0)
      all_goals
        have B2 := (HBk.out.grown hg2 HN.out).set_ 0 (Value.slice A2 (b.parts.length + 1) c2)
        have B3 : Me.Blk (w2.setCell ⟨g, 0, none⟩ (Value.slice A2 (b.parts.length + 1) c2)) w.heap.size 56 #[.int .i64 (b.long : Int), .int .i64 n, lv, .int .i64 back] := (HB1.out.grown hg2 HNb.out).far (by show w.heap.size ≠ g; omega) _
        have HF := Lib.hid ((fr1.grown hown1 hg2 (Nat.le_refl _) (by omega) (fun k => .inr rfl)).setCell (p := ⟨g, 0, none⟩) (Value.slice A2 (b.parts.length + 1) c2) hB (.inl fun t => .inl rfl))
        have HP := Lib.hid (Me.parts_snoc (p := ⟨b.long, n, l, back⟩) hown1 (fun k p hk => by obtain ⟨lv', h1, h2, h3, h4, h5⟩ := HX.out k p hk; exact ⟨lv', h1, h2, h3, h4, h5.below bl1⟩) (hl.below bl1) hown2 hg2)
        have HP2 := Lib.hid (HP.out.far (HBk.out.grown hg2 HN.out) (by decide) (by decide) 0 (Value.slice A2 (b.parts.length + 1) c2))
        clear e0 k0 c0 c1 f0 f1 d0 d1 d2 d3
        generalize w2.setCell ⟨g, 0, none⟩ (Value.slice A2 (b.parts.length + 1) c2) = w3 at B2 B3 HF HP2 ⊢
        have c0 : w3.cell? ⟨g, 0, none⟩ = some (Value.slice A2 (b.parts.length + 1) c2) := B2.cell 0
        have c1 : w3.cell? ⟨g, 1, none⟩ = some (.int .i64 (b.long : Int)) := B2.cell 1
        have f1 := B2.frozen 1
        have d1 : w3.cell? ⟨w.heap.size, 1, none⟩ = some (.int .i64 n) := B3.cell 1
        have HB2 := Lib.hid B2
        clear B2 B3
        go_wp2
        go_region
        all_goals
          go_wp2
          go_ret
          rw [HA.out]
          have hl2 : ((b.long : Int) + (n : Int)) = ((b.long + n : Nat) : Int) := by omega
          rw [hl2]
          refine ⟨HF.out.trans ?_, rfl, Value.slice A2 (b.parts.length + 1) c2, ?_, ?_⟩
          · first | exact ((Me.Fr.refl).setCell (p := ⟨g, 1, none⟩) _ hB (.inl fun t => .inl rfl)).drew | exact (Me.Fr.refl).drew.setCell (p := ⟨g, 1, none⟩) _ hB (.inl fun t => .inl rfl)
          · exact HB2.out.set_ 1 _
          · exact (HP2.out.far HB2.out (by decide) (by decide) 1 _)
    · have HA := Lib.hid (show Pu.add b n l back = some b by unfold Pu.add; rw [if_neg hbig, if_neg hn0])
      go_enter Try.func30, Try.ntmps30
      go_wp2
      go_quiet (fail)
      go_wp2
      go_ret
      rw [HA.out]
      exact ⟨((Me.Fr.refl).alloc (by omega) _).drewN _, rfl, pv, (hblk.alloc _), hpv.below (Me.below_drewN ((Below.refl _ _).alloc (Nat.le_refl _) _) _)⟩

theorem addPost_bad {w : World} {g B : Nat} {b : Pu.Bs} {r : Option Pu.Bs} (hr : r = none) (hb : Me.BitsAt w g B b) : AddPost w g B b r (.returned (.bool false)) w := by
  subst hr; exact ⟨Me.Fr.refl, rfl, hb⟩

set_option maxHeartbeats 800000 in
theorem again_any (g B : Nat) (b : Pu.Bs) (n c : Int) (w : World) (hB : B ≤ g) (hb : Me.BitsAt w g B b)
    (hlong : b.long ≤ 1152921504606846976) (hn1 : -9223372036854775808 ≤ n) (hn2 : n ≤ 9223372036854775807) (hc1 : -9223372036854775808 ≤ c) (hc2 : c ≤ 9223372036854775807) (hp : b.parts.length < 2199023255552) :
    Calls Try.prog 32 #[.pointer (some ⟨g, 0, none⟩), .int .i64 n, .int .i64 c] w (AddPost w g B b (Pu.again b n c)) := by
  have hb0 := hb
  obtain ⟨pv, hblk, hpv⟩ := hb0
  have hg := hblk.lt
  have k1 : w.cell? ⟨g, 1, none⟩ = some (.int .i64 (b.long : Int)) := hblk.cell 1
  have bad : Pu.againBad b n c = true → Pu.again b n c = none := fun h => by unfold Pu.again; rw [if_pos h]
  by_cases h1 : n < 1
  · have HR := Lib.hid (bad (by unfold Pu.againBad; simp [h1]))
    clear bad
    go_enter Try.func32, Try.ntmps32
    go_wp2
    go_ret
    exact addPost_bad HR.out hb
  · by_cases h2 : (b.long : Int) < n
    · have HR := Lib.hid (bad (by unfold Pu.againBad; simp [h2]))
      clear bad
      go_enter Try.func32, Try.ntmps32
      go_wp2
      go_ret
      exact addPost_bad HR.out hb
    · by_cases h3 : c < 0
      · have HR := Lib.hid (bad (by unfold Pu.againBad; simp [h3]))
        clear bad
        go_enter Try.func32, Try.ntmps32
        go_wp2
        go_ret
        exact addPost_bad HR.out hb
      · by_cases h4 : 1152921504606846976 / n < c
        · have HR := Lib.hid (bad (by unfold Pu.againBad; simp [h4]))
          clear bad
          go_enter Try.func32, Try.ntmps32
          go_wp2
          go_ret
          exact addPost_bad HR.out hb
        · have hm0 : 0 ≤ n * c := Int.mul_nonneg (by omega) (by omega)
          have hm1 : n * c ≤ 1152921504606846976 := by
            have := Int.mul_le_of_le_ediv (c := n) (a := c) (b := 1152921504606846976) (by omega) (by omega)
            rw [Int.mul_comm]; exact this
          obtain ⟨N, hN⟩ : ∃ N : Nat, n = (N : Int) := ⟨n.toNat, by omega⟩
          obtain ⟨M, hM⟩ : ∃ M : Nat, n * c = (M : Int) := ⟨(n * c).toNat, by omega⟩
          have HR := Lib.hid (show Pu.again b n c = Pu.add b M none N by
            unfold Pu.again
            rw [if_neg (by unfold Pu.againBad; simp [h1, h2, h3, h4]), hM, hN]
            rfl)
          clear bad
          have HM := Lib.hid hM
          clear hM
          subst hN
          go_enter Try.func32, Try.ntmps32
          go_wp2_with fail
          rw [HM.out]
          have hM9 : M < 9223372036854775808 := by have := HM.out; omega
          refine (add_any g B b M N none (.slice none 0 0) w hB hb (.inl ⟨rfl, rfl⟩) hlong hM9 (by omega) hp).mono ?_
          rintro e w' ⟨hf, hm⟩
          have HFr := Lib.hid hf
          clear hf
          cases hr : Pu.add b M none N with
          | none =>
            rw [hr] at hm
            obtain ⟨rfl, hb'⟩ := hm
            have HR2 := Lib.hid (HR.out.trans hr)
            clear hr
            go_wp2
            go_ret
            rw [HR2.out]
            exact ⟨HFr.out, rfl, hb'⟩
          | some b' =>
            rw [hr] at hm
            obtain ⟨rfl, hb'⟩ := hm
            have HR2 := Lib.hid (HR.out.trans hr)
            clear hr
            go_wp2
            go_ret
            rw [HR2.out]
            exact ⟨HFr.out, rfl, hb'⟩
end Go.Proofs.Ytnkkpdpjkfjmnaa
