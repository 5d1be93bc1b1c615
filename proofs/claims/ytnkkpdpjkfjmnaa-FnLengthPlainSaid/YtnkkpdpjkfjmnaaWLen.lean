/-
  The contracts of gcprog's progbits, Bits and impl.Length: the number of bits that a program says.
-/
import Derived.Test.YtnkkpdpjkfjmnaaWReadv
import Derived.Test.YtnkkpdpjkfjmnaaBMem
import Derived.Deep.DeepCutAuto
namespace Go.Proofs.Ytnkkpdpjkfjmnaa
open Go.RowKit
set_option linter.unusedVariables false

set_option maxRecDepth 100000 in
set_option maxHeartbeats 2000000 in
theorem progbits_any (bs : List Nat) (A : Option Addr) (c : Nat) (b0 : Pu.Bs) (B : Nat) (w : World) (hc : bs.length ≤ c) (hcm : c ≤ maxLen) (h8 : ∀ x ∈ bs, x < 256) (hS : Me.Sl w B A (bs.map Me.b8)) (hr : Pu.rd .empty bs = some b0) :
    Calls Try.prog 37 #[.slice A bs.length c] w fun e w' => e = .returned (.int .i64 (b0.long : Int)) ∧ w = w' := by
  have HR := Lib.hid hr
  clear hr
  unfold maxLen at hcm
  go_enter Try.func37, Try.ntmps37
  go_wp2
  go_loop [0, 3] (fun p n => ∃ (b : Pu.Bs) (ps : List Nat) (A' : Option Addr) (c' : Nat), p = .slice A' ps.length c' ∧ n = .int .i64 (b.long : Int) ∧ ps.length ≤ c' ∧ c' ≤ 9223372036854775807 ∧ (∀ x ∈ ps, x < 256) ∧ Me.Sl w B A' (ps.map Me.b8) ∧ b.long ≤ 1152921504606846976 ∧ Hid (Pu.rd b ps = some b0))
    (fun p _ => Me.lenOf p)
  case atStart => exact ⟨.empty, bs, A, c, rfl, rfl, hc, by omega, h8, hS, by simp [Pu.Bs.empty], HR⟩
  case round =>
    obtain ⟨b, ps, A', c', rfl, rfl, hc', hcm', h8', hS', hlong, HE⟩ := hrel
    rcases ps with _ | ⟨x, q⟩
    · exact absurd HE.out (by rw [Pu.rd_nil]; simp)
    · obtain ⟨bb, off, rfl, hbb, hcell⟩ := hS'.head
      have hx8 : x < 256 := h8' x (by simp)
      unfold Me.b8 at hcell
      simp only [List.length_cons] at hc' ⊢
      obtain ⟨A1, hT, hsl⟩ := Me.slice_from (t := 22) Try.underlying22 (fun W => by simp [go_sem]) hS' (n := q.length + 1) (c := c') 1 1 q.length (c' - 1) rfl rfl rfl (by simp) hc'
      have HT := Lib.hid hT
      clear hT hS'
      by_cases hx0 : x = 0
      · subst hx0
        have h := HE.out
        rw [Pu.rd_zero] at h
        split at h
        · rename_i hq
          subst hq
          injection h with h
          subst h
          go_wp2
          all_goals
            go_ret
            exact ⟨rfl, rfl⟩
        · cases h
      · have HX0 := Lib.hid hx0
        have hz0 : ((x : Int) == 0) = false := beq_eq_false_iff_ne.2 (by omega)
        have HLO := Lib.hid (Bi.low7 x hx8)
        have HHI := Lib.hid (Bi.high1 x hx8)
        clear hx0
        obtain ⟨y, hy⟩ : ∃ y, Pu.step b x q = some y := by
          cases hs : Pu.step b x q with
          | none => exact absurd HE.out (by rw [Pu.rd_none HX0.out hs]; simp)
          | some y => exact ⟨y, rfl⟩
        have HY := Lib.hid hy
        have HN := Lib.hid ((Pu.rd_some (b' := y.1) (q' := y.2) HX0.out hy).symm.trans HE.out)
        clear hy
        by_cases hx128 : x < 128
        · obtain ⟨h1, h2, h3, h4⟩ := Pu.step_lit hx128 HY.out
          have hbit : (bits BinOp.and IntKind.u8 (x : Int) 128 == 0) = true := by rw [HHI.out, if_pos hx128]; rfl
          have H2 := Lib.hid h2
          have H3 := Lib.hid h3
          clear h2 h3
          have hlo : bits BinOp.andNot IntKind.u8 (x : Int) 128 = (x : Int) := by rw [HLO.out, Nat.mod_eq_of_lt hx128]
          obtain ⟨A2, hT2, hsl2⟩ := Me.slice_from (t := 22) Try.underlying22 (fun W => by simp [go_sem]) HT.out (n := q.length) (c := c' - 1) ((x + 7) / 8) (((x : Int) + 7) / 8) (q.length - (x + 7) / 8) (c' - 1 - (x + 7) / 8) (by omega) (by omega) rfl (by simp) (by omega)
          have HT2 := Lib.hid hT2
          clear hT2
          go_wp2
          go_round
          case rel =>
            have e2 := H2.out
            have e3 := H3.out
            refine ⟨y.1, y.2, A2, _, by rw [e2, List.length_drop], int_eq (by rw [e3]; omega), by rw [e2, List.length_drop]; omega, by omega, fun z hz => h8' z (List.mem_cons_of_mem _ (List.mem_of_mem_drop (by rw [← e2]; exact hz))), ?_, by omega, HN.out⟩
            rw [e2]
            simpa using HT2.out
          case measure => simp [Me.lenOf]; omega
        · obtain ⟨n, q1, k, h1, h2, h3⟩ := Pu.step_rep hx128 HY.out
          have hbit : (bits BinOp.and IntKind.u8 (x : Int) 128 == 0) = false := by rw [HHI.out, if_neg hx128]; rfl
          have hlo : bits BinOp.andNot IntKind.u8 (x : Int) 128 = (x : Int) - 128 := by rw [HLO.out]; omega
          have H1 := Lib.hid h1
          have H2 := Lib.hid h2
          have hq1 := Pu.hdr_len h1
          have hq2 := Pu.dec_len h2
          obtain ⟨ha1, ha2⟩ := Pu.again_long h3
          have HA1 := Lib.hid ha1
          clear h1 h2 h3 ha1
          go_upto_if 36 with (fail)
          go_cut [0, 6] (fun s0 s6 wx => ∃ (A3 : Option Addr) (c3 : Nat), w = wx ∧ s0 = .slice A3 q1.length c3 ∧ s6 = .int .i64 (n : Int) ∧ q1.length ≤ c3 ∧ c3 ≤ 9223372036854775807 ∧ (∀ z ∈ q1, z < 256) ∧ Me.Sl w B A3 (q1.map Me.b8) ∧ n < 4611686018427387904)
          case first =>
            by_cases hx : x = 128
            · have hzx : ((x : Int) - 128 == 0) = true := beq_iff_eq.2 (by omega)
              have HX := Lib.hid hx
              clear hx
              have HD := Lib.hid (show Pu.dec q = some (n, q1) by have h := H1.out; unfold Pu.hdr at h; rw [if_pos HX.out] at h; exact h)
              go_wp2_with fail
              refine (readvarint_any q A1 (c' - 1) n q1 B w (by omega) (by unfold maxLen; omega) (fun z hz => h8' z (List.mem_cons_of_mem _ hz)) (by simpa using HT.out) HD.out).mono ?_
              rintro e w' ⟨⟨A3, c3, rfl, g1, g2, g3⟩, rfl⟩
              unfold maxLen at g2
              go_wp2_with fail
              go_meet
              exact ⟨A3, c3, rfl, rfl, rfl, g1, by omega, fun z hz => h8' z (List.mem_cons_of_mem _ (Pu.dec_mem HD.out z hz)), g3, (Pu.dec_bd (fun z hz => h8' z (List.mem_cons_of_mem _ hz)) HD.out).1⟩
            · have hzx : ((x : Int) - 128 == 0) = false := beq_eq_false_iff_ne.2 (by omega)
              have hE : x - 128 = n ∧ q = q1 := by
                have h := H1.out
                unfold Pu.hdr at h
                rw [if_neg hx] at h
                injection h with h
                injection h with h1 h2
                exact ⟨h1, h2⟩
              obtain ⟨hE1, rfl⟩ := hE
              have HE1 := Lib.hid hE1
              clear hx hE1
              go_wp2_with fail
              go_meet
              exact ⟨A1, c' - 1, rfl, rfl, int_eq (by have := HE1.out; omega), by omega, by omega, fun z hz => h8' z (List.mem_cons_of_mem _ hz), by simpa using HT.out, by have := HE1.out; omega⟩
          case rest =>
            obtain ⟨A3, c3, rfl, rfl, rfl, hc3, hcm3, h83, hS3, hn3⟩ := hcut
            go_wp2_with fail
            refine (readvarint_any q1 A3 c3 k y.2 B w hc3 (by unfold maxLen; omega) h83 hS3 H2.out).mono ?_
            rintro e w' ⟨⟨A4, c4, rfl, g1, g2, g3⟩, rfl⟩
            unfold maxLen at g2
            have hk := (Pu.dec_bd h83 H2.out).1
            have hnk : (0 : Int) ≤ (n : Int) * (k : Int) := Int.mul_nonneg (by omega) (by omega)
            have hnk2 : (n : Int) * (k : Int) ≤ 1152921504606846976 - (b.long : Int) := by rw [← Int.natCast_mul]; omega
            go_wp2
            go_round
            case rel =>
              have e1 := HA1.out
              exact ⟨y.1, y.2, A4, c4, rfl, int_eq (by rw [e1, Int.natCast_add, Int.natCast_mul]), g1, by omega, fun z hz => h83 z (Pu.dec_mem H2.out z hz), g3, by omega, HN.out⟩
            case measure => simp [Me.lenOf]; omega

theorem gbits_any (bs : List Nat) (A : Option Addr) (c : Nat) (b0 : Pu.Bs) (B : Nat) (w : World) (hc : bs.length ≤ c) (hcm : c ≤ maxLen) (h8 : ∀ x ∈ bs, x < 256) (hS : Me.Sl w B A (bs.map Me.b8)) (hr : Pu.rd .empty bs = some b0) :
    Calls Try.prog 33 #[.slice A bs.length c] w fun e w' => e = .returned (.int .i64 (b0.long : Int)) ∧ w = w' := by
  have HR := Lib.hid hr
  clear hr
  go_enter Try.func33, Try.ntmps33
  go_wp2_with (go_at_call 37; refine (progbits_any bs A c b0 B _ hc hcm h8 hS HR.out).mono ?_; rintro e w' ⟨rfl, rfl⟩)
  go_ret
  exact ⟨rfl, rfl⟩

theorem length_any (bs : List Nat) (A : Option Addr) (c n : Nat) (b0 : Pu.Bs) (B : Nat) (w : World) (hn : bs.length = n) (hc : n ≤ c) (hcm : c ≤ maxLen) (h8 : ∀ x ∈ bs, x < 256) (hS : Me.Sl w B A (bs.map Me.b8)) (hr : Pu.rd .empty bs = some b0) :
    Calls Try.prog 21 #[.slice A n c] w fun e w' => e = .returned (.int .i64 (b0.long : Int)) ∧ w = w' := by
  subst hn
  have HR := Lib.hid hr
  clear hr
  go_enter Try.func21, Try.ntmps21
  go_wp2_with (go_at_call 33; refine (gbits_any bs A c b0 B _ hc hcm h8 hS HR.out).mono ?_; rintro e w' ⟨rfl, rfl⟩)
  go_ret
  exact ⟨rfl, rfl⟩
end Go.Proofs.Ytnkkpdpjkfjmnaa
