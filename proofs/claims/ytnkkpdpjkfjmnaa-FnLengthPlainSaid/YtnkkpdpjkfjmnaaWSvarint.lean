/-
  The contract of spec.varint: a number of at most 62 bits at the beginning of some bytes, or none.
-/
import Derived.Test.YtnkkpdpjkfjmnaaWVarint
import Derived.Test.YtnkkpdpjkfjmnaaPart
import Derived.Deep.QuietTactic
import Derived.BigQuiet
namespace Go.Proofs.Ytnkkpdpjkfjmnaa
open Go.RowKit
set_option linter.unusedVariables false

/-- what spec.varint answers -/
def SvarintPost (w : World) (B : Nat) (d : Option (Nat × List Nat)) (e : Ending) (w' : World) : Prop :=
  (∃ nq, w.drewN nq = w') ∧ match d with
    | some x => ∃ A' c', e = .returned (.tuple #[.int .i64 (x.1 : Int), .slice A' x.2.length c', .bool true]) ∧ x.2.length ≤ c' ∧ c' ≤ maxLen ∧ Me.Sl w B A' (x.2.map Me.b8)
    | none => e = .returned (.tuple #[.int .i64 0, .slice none 0 0, .bool false])

theorem svarint_none {w : World} {B : Nat} {d : Option (Nat × List Nat)} (h : d = none) : SvarintPost w B d (.returned (.tuple #[.int .i64 0, .slice none 0 0, .bool false])) w := by
  subst h; exact ⟨⟨0, rfl⟩, rfl⟩

theorem svarint_some {w : World} {B : Nat} {bs : List Nat} {i acc x c : Nat} {A : Option Addr} (hi : i ≤ 8) (hx : x < 128) (hacc : acc < 128 ^ i) (hbad : ¬ (8 < i ∨ (i = 8 ∧ 63 < x)))
    (hd : (if 8 < i ∨ i = 8 ∧ 63 < x then none else if x < 128 then some (acc + x * 128 ^ i, bs.drop (i + 1)) else Pu.decA (i + 1) (acc + x % 128 * 128 ^ i) (bs.drop (i + 1))) = Pu.dec bs)
    (h7 : bits BinOp.and IntKind.u8 (x : Int) 127 = ((x % 128 : Nat) : Int)) {y P : Int} {L : Nat} (hy : y = bits BinOp.and IntKind.u8 (x : Int) 127) (hP : P = 2 ^ (7 * i)) (hL : L = bs.length - (i + 1)) (hc : L ≤ c) (hcm : c ≤ maxLen) (hS : Me.Sl w B A ((bs.drop (i + 1)).map Me.b8)) (nq : Nat) :
    SvarintPost w B (Pu.dec bs) (.returned (.tuple #[.int .i64 (bits BinOp.or IntKind.i64 (acc : Int) (wrap64 (wrap64 y * P))), .slice A L c, .bool true])) (w.drewN nq) := by
  subst hL
  refine ⟨⟨nq, rfl⟩, ?_⟩
  rw [← hd, if_neg hbad, if_pos hx]
  refine ⟨A, c, ret_three (int_eq ?_) (by simp) rfl, by simpa using hc, hcm, hS⟩
  rw [hP, Bi.read_step i acc x hi hacc y (hy.trans h7), Nat.mod_eq_of_lt hx]

set_option maxRecDepth 100000 in
set_option maxHeartbeats 800000 in
theorem svarint_any (bs : List Nat) (A : Option Addr) (c : Nat) (B : Nat) (w : World) (hc : bs.length ≤ c) (hcm : c ≤ maxLen) (h8 : ∀ x ∈ bs, x < 256) (hS : Me.Sl w B A (bs.map Me.b8)) :
    Calls Try.prog 31 #[.slice A bs.length c] w (SvarintPost w B (Pu.dec bs)) := by
  unfold maxLen at hcm
  go_enter Try.func31, Try.ntmps31
  go_wp2
  go_loop [5, 10] (fun v k => ∃ (i acc : Nat), k = .int .i64 i ∧ v = .int .i64 acc ∧ i ≤ bs.length ∧ i ≤ 9 ∧ acc < 128 ^ i ∧ Hid (Pu.decA i acc (bs.drop i) = Pu.dec bs))
    (fun _ k => bs.length - (intOf k).toNat)
  case atStart => exact ⟨0, 0, rfl, rfl, Nat.zero_le _, by omega, by omega, rfl⟩
  case round =>
    obtain ⟨i, acc, rfl, rfl, hi, hi9, hacc, HE⟩ := hrel
    by_cases hlt : i < bs.length
    · have hS' := hS.drop (k := i) (cap := c) (by simpa using hc)
      obtain ⟨x, hx⟩ : ∃ x, bs[i]? = some x := ⟨bs[i], List.getElem?_eq_getElem hlt⟩
      have hx8 : x < 256 := h8 x (List.mem_of_getElem? hx)
      have hdr : bs.drop i = x :: bs.drop (i + 1) := by
        rw [List.drop_eq_getElem_cons hlt]
        rw [List.getElem?_eq_getElem hlt] at hx
        injection hx with hx
        rw [hx]
      obtain ⟨b, off, rfl, hb, hcell⟩ : ∃ b off, A = some ⟨b, off, none⟩ ∧ b < B ∧ w.cell? ⟨b, off + i, none⟩ = some (.int .u8 (x : Int)) := by
        rcases hS with h | ⟨b, off, e, hb, hcl⟩
        · simp at h; subst h; simp at hlt
        · exact ⟨b, off, e, hb, hcl i _ (by rw [List.getElem?_map, hx]; rfl)⟩
      have hE := HE.out
      rw [hdr] at hE
      simp only [Pu.decA] at hE
      have HE1 := Lib.hid hE
      have HX := Lib.hid hx
      have HD := Lib.hid hdr
      clear hE hx hdr
      have h7 := Bi.low7' x hx8
      have H7 := Lib.hid h7
      clear h7
      have hS1 := hS
      clear hS
      by_cases hbad : 8 < i ∨ (i = 8 ∧ 63 < x)
      · have HN := Lib.hid (show Pu.dec bs = none by rw [← HE1.out, if_pos hbad])
        rcases hbad with hbad | ⟨h8i, hx63⟩
        · go_wp2
          go_ret3
          exact svarint_none HN.out
        · subst h8i
          go_wp2
          go_ret3
          exact svarint_none HN.out
      · by_cases h8i : i = 8
        · have hx63 : x ≤ 63 := by omega
          have hx128 : x < 128 := by omega
          have HB := Lib.hid hbad
          clear hbad
          subst h8i
          go_wp2
          go_quiet (fail)
          go_wp2
          all_goals
            go_ret3
            have hT := hS1.drop (k := 9) (cap := c) (by simpa using hc)
            first | rw [if_pos ‹c = 9›] at hT | rw [if_neg ‹¬ c = 9›] at hT
            exact svarint_some (i := 8) (by omega) hx128 hacc (by omega) (by rw [if_neg (by omega)]; have h := HE1.out; rw [if_neg (by omega)] at h; exact h) H7.out rfl (by simp) rfl (by omega) (by unfold maxLen; omega) (by simpa [Addr.add] using hT) nq
        · have hi8 : i < 8 := by omega
          have HB := Lib.hid hbad
          have HI := Lib.hid h8i
          clear hbad h8i
          by_cases hx128 : x < 128
          · go_wp2
            go_quiet (fail)
            go_wp2
            all_goals
              go_ret3
              have hT := hS1.drop (k := i + 1) (cap := c) (by simpa using hc)
              first | rw [if_pos ‹c = i + 1›] at hT | rw [if_neg ‹¬ c = i + 1›] at hT
              exact svarint_some (by omega) hx128 hacc HB.out HE1.out H7.out rfl rfl rfl (by omega) (by unfold maxLen; omega) (by simpa [Addr.add] using hT) nq
          · go_wp2
            go_round
            case rel =>
              have hE := HE1.out
              rw [if_neg HB.out, if_neg hx128] at hE
              refine ⟨i + 1, acc + x % 128 * 128 ^ i, by go_num, int_eq ?_, by omega, by omega, Bi.acc_lt x hacc, hE⟩
              rw [Bi.read_step i acc x (by omega) hacc _ H7.out]
            case measure => simp [intOf]; omega
    · have HN := Lib.hid (show Pu.dec bs = none by rw [← HE.out, List.drop_eq_nil_of_le (by omega)]; simp [Pu.decA])
      go_wp2
      go_ret3
      exact svarint_none HN.out
end Go.Proofs.Ytnkkpdpjkfjmnaa
