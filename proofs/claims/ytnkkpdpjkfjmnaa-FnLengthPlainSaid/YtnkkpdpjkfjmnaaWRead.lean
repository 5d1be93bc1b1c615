/-
  The contract of spec.Read: the bits that a program says, or none.
-/
import Derived.Test.YtnkkpdpjkfjmnaaWAdd
import Derived.Test.YtnkkpdpjkfjmnaaWSvarint
import Derived.Deep.DeepCutAuto
namespace Go.Proofs.Ytnkkpdpjkfjmnaa
open Go.RowKit
set_option linter.unusedVariables false

/-- what spec.Read answers -/
def ReadPost (w : World) (r : Option Pu.Bs) (e : Ending) (w' : World) : Prop :=
  Below w.heap.size w w' ∧ match r with
    | some b => ∃ PA PC, e = .returned (.tuple #[.agg #[.slice PA b.parts.length PC, .int .i64 (b.long : Int)], .bool true]) ∧ Me.PartsV w' w.heap.size (.slice PA b.parts.length PC) b.parts ∧ b.long ≤ 1152921504606846976
    | none => ∃ PA n PC L, e = .returned (.tuple #[.agg #[.slice PA n PC, .int .i64 L], .bool false])

theorem readPost_bad {w w' : World} {r : Option Pu.Bs} {A : Option Addr} {n c : Nat} {L : Int} (hr : r = none) (hb : Below w.heap.size w w') : ReadPost w r (.returned (.tuple #[.agg #[.slice A n c, .int .i64 L], .bool false])) w' := by
  subst hr; exact ⟨hb, A, n, c, L, rfl⟩

theorem addM_ne {g k : Nat} (h : k ≠ g) : ¬ AddM g k 30 := by
  rintro (h' | h')
  · exact h h'
  · exact absurd h' (by decide)

theorem el4 : Me.Elem Try.prog 53 4 1 1 (.bool false) := ⟨Try.underlying53, by kernel_rfl, rfl, by omega, by omega⟩

set_option maxRecDepth 100000 in
set_option maxHeartbeats 4000000 in
theorem read_any (bs : List Nat) (A : Option Addr) (c : Nat) (w : World) (hc : bs.length ≤ c) (hcm : c ≤ maxLen) (hlen : bs.length < 1099511627776) (h8 : ∀ x ∈ bs, x < 256) (hS : Me.Sl w w.heap.size A (bs.map Me.b8)) :
    Calls Try.prog 20 #[.slice A bs.length c] w (ReadPost w (Pu.rd .empty bs)) := by
  unfold maxLen at hcm
  go_enter Try.func20, Try.ntmps20
  go_wp2
  go_loopw [0] (fun p wr => ∃ (b : Pu.Bs) (ps : List Nat) (A' : Option Addr) (c' : Nat), p = .slice A' ps.length c' ∧ ps.length ≤ c' ∧ c' ≤ 9223372036854775807 ∧ (∀ x ∈ ps, x < 256) ∧ Me.Sl wr w.heap.size A' (ps.map Me.b8) ∧
      Me.BitsAt wr (w.heap.size + 1) w.heap.size b ∧ b.long ≤ 1152921504606846976 ∧ b.parts.length + ps.length ≤ bs.length ∧ Me.Blk wr w.heap.size 30 #[.slice none 0 0, .int .i64 0] ∧ Below w.heap.size w wr ∧ Hid (Pu.rd b ps = Pu.rd .empty bs))
    (fun p _ => Me.lenOf p)
  case atStart =>
    refine ⟨.empty, bs, A, c, rfl, hc, by omega, h8, (hS.alloc (Nat.le_refl _) _).alloc (by simp) _, ⟨.slice none 0 0, ?_, Me.PartsV.nil⟩, by simp [Pu.Bs.empty], by simp [Pu.Bs.empty], ?_, ((Below.refl _ _).alloc (Nat.le_refl _) _).alloc (by simp) _, rfl⟩
    · have := Me.Blk.new (w.alloc (Obj.cells #[Value.slice none 0 0, Value.int IntKind.i64 0] 30)) 30 #[Value.slice none 0 0, Value.int IntKind.i64 0]
      simpa [Pu.Bs.empty] using this
    · exact (Me.Blk.new w 30 _).alloc _
  case round =>
    obtain ⟨b, ps, A', c', rfl, hc', hcm', h8', hS', hb, hlong, hcnt, hres, hbel, HE⟩ := hrel
    have r0 : wr.cell? ⟨w.heap.size, 0, none⟩ = some (.slice none 0 0) := hres.cell 0
    have r1 : wr.cell? ⟨w.heap.size, 1, none⟩ = some (.int .i64 0) := hres.cell 1
    have q0 := hres.frozen 0
    have q1 := hres.frozen 1
    rcases ps with _ | ⟨x, q⟩
    · simp only [List.length_nil]
      have HN := Lib.hid (HE.out.symm.trans (Pu.rd_nil b))
      have HS := Lib.hid ((hbel.setCell (p := ⟨w.heap.size, 0, none⟩) (Nat.le_refl _) (.slice none 0 0)).setCell (p := ⟨w.heap.size, 1, none⟩) (Nat.le_refl _) (.int .i64 0))
      go_wp2
      refine bodyPost_ret (v := .tuple #[.agg #[.slice none 0 0, .int .i64 0], .bool false]) (by simp [results, Try.results20, go_sem, r0, r1]) rfl ?_
      exact readPost_bad HN.out HS.out
    · obtain ⟨bb, off, rfl, hbb, hcell⟩ := hS'.head
      have hx8 : x < 256 := h8' x (by simp)
      unfold Me.b8 at hcell
      simp only [List.length_cons] at hc' hcnt ⊢
      obtain ⟨A1, hT, hsl⟩ := Me.slice_from (t := 22) Try.underlying22 (fun W => by simp [go_sem]) hS' (n := q.length + 1) (c := c') 1 1 q.length (c' - 1) rfl rfl rfl (by simp) hc'
      have HT := Lib.hid hT
      clear hT hS'
      by_cases hx0 : x = 0
      · subst hx0
        have HN := Lib.hid (HE.out.symm.trans (Pu.rd_zero b q))
        obtain ⟨PA, PC, hblk, hpv⟩ := hb.shape
        have s0 : wr.cell? ⟨w.heap.size + 1, 0, none⟩ = some (.slice PA b.parts.length PC) := hblk.cell 0
        have s1 : wr.cell? ⟨w.heap.size + 1, 1, none⟩ = some (.int .i64 (b.long : Int)) := hblk.cell 1
        have HS := Lib.hid ((hbel.setCell (p := ⟨w.heap.size, 0, none⟩) (Nat.le_refl _) (.slice PA b.parts.length PC)).setCell (p := ⟨w.heap.size, 1, none⟩) (Nat.le_refl _) (.int .i64 (b.long : Int)))
        have HP := Lib.hid ((hpv.far hres (by decide) (by decide) 0 (.slice PA b.parts.length PC)).far (hres.set_ 0 (.slice PA b.parts.length PC)) (by decide) (by decide) 1 (.int .i64 (b.long : Int)))
        have HL := Lib.hid hpv
        clear hpv
        go_wp2
        refine bodyPost_ret (v := .tuple #[.agg #[.slice PA b.parts.length PC, .int .i64 (b.long : Int)], .bool ((q.length : Int) == 0)]) (by simp [results, Try.results20, go_sem, r0, r1]) rfl ?_
        by_cases hq : q = []
        · subst hq
          rw [HN.out, if_pos rfl]
          exact ⟨HS.out, _, _, rfl, HP.out, hlong⟩
        · rw [HN.out, if_neg hq]
          have e : ((q.length : Int) == 0) = false := by
            have := List.length_pos_iff.2 hq
            exact beq_eq_false_iff_ne.2 (by omega)
          rw [e]
          exact readPost_bad rfl HS.out
      · have HS0 := Lib.hid ((hbel.setCell (p := ⟨w.heap.size, 0, none⟩) (Nat.le_refl _) (.slice none 0 0)).setCell (p := ⟨w.heap.size, 1, none⟩) (Nat.le_refl _) (.int .i64 0))
        have hx1 : 1 ≤ x := by omega
        have HX0 := Lib.hid hx0
        clear hx0
        have hz0 : ((x : Int) == 0) = false := beq_eq_false_iff_ne.2 (by omega)
        by_cases hx128 : x < 128
        · by_cases hshort : q.length < (x + 7) / 8
          · have HN := Lib.hid (HE.out.symm.trans (Pu.rd_none HX0.out (by unfold Pu.step; rw [if_pos hx128, if_pos hshort])))
            go_wp2
            refine bodyPost_ret (v := .tuple #[.agg #[.slice none 0 0, .int .i64 0], .bool false]) (by simp [results, Try.results20, go_sem, r0, r1]) rfl ?_
            exact readPost_bad HN.out HS0.out
          · obtain ⟨b1, o1, rfl, hb1, hcells⟩ : ∃ b1 o1, A1 = some ⟨b1, o1, none⟩ ∧ b1 < w.heap.size ∧ Hid (∀ (j u : Nat), q[j]? = some u → wr.cell? ⟨b1, o1 + j, none⟩ = some (.int .u8 (u : Int))) := by
              rcases HT.out with h | ⟨b1, o1, e, hlt, hcc⟩
              · simp at h; subst h; simp at hshort; omega
              · refine ⟨b1, o1, e, hlt, fun j u hj => hcc j _ ?_⟩
                simp [hj, Me.b8]
            have hz1 : decide ((x : Int) < 128) = true := by simp; omega
            have hz2 : decide ((q.length : Int) < ((x : Int) + 7) / 8) = false := by simp; omega
            obtain ⟨A2, hT2, hsl2⟩ := Me.slice_from (t := 22) Try.underlying22 (fun W => by simp [go_sem]) HT.out (n := q.length) (c := c' - 1) ((x + 7) / 8) (((x : Int) + 7) / 8) (q.length - (x + 7) / 8) (c' - 1 - (x + 7) / 8) (by omega) (by omega) rfl (by simp) (by omega)
            have HT2 := Lib.hid hT2
            clear hT2
            go_wp2
            obtain ⟨wo, rfl⟩ : ∃ wo : World, wo = wr := ⟨_, rfl⟩
            go_loopw [7, 42] (fun l i w2 => ∃ (j : Nat) (LA : Option Addr) (LC : Nat), i = .int .i64 j ∧ l = .slice LA j LC ∧ j ≤ x ∧ w2.ownsRow wo.heap.size 4 1 (.slice LA j LC) j ((Pu.litBits j q).map .bool) ∧ Below wo.heap.size wo w2)
              (fun _ i _ => x - (intOf i).toNat)
            case atStart => exact ⟨0, none, 0, rfl, rfl, Nat.zero_le _, World.ownsRow_nil _ _ _ _, Below.refl _ _⟩
            case round =>
              obtain ⟨j, LA, LC, rfl, rfl, hj, hown, hbel2⟩ := hrel
              by_cases hjx : j < x
              · obtain ⟨y, hy⟩ : ∃ y, q[j / 8]? = some y := ⟨q[j / 8]'(by omega), List.getElem?_eq_getElem (by omega)⟩
                have hy8 : y < 256 := h8' y (List.mem_cons_of_mem _ (List.mem_of_getElem? hy))
                have hcy : wr.cell? ⟨b1, o1 + j / 8, none⟩ = some (.int .u8 (y : Int)) := (hbel2.cell (p := ⟨b1, o1 + j / 8, none⟩) (by have := hbel.size; show b1 < _; omega)).trans (hcells.out _ _ hy)
                have HY := Lib.hid hy
                clear hy
                have hj8 : j / 8 < q.length := by omega
                go_wp2_with (at_builtin; go_must (refine Me.wpList_app el4 rfl hown _ _ rfl rfl rfl rfl (Me.ones1 rfl) (by omega) hbel2.size ?_); intro v' w1 hown1 hg1 hnn)
                go_roundw
                case rel =>
                  obtain ⟨LA', LC', hv', _⟩ := Me.own_shape hown1
                  rw [hv'] at hown1
                  refine ⟨j + 1, LA', LC', by go_num, hv', by omega, ?_, hbel2.grown hg1 hbel2.size (fun k hk => (hown.lt k hk).1)⟩
                  rw [Pu.litBits_succ, Pu.bitAt_of HY.out, ← Bi.bit_of y (j % 8) hy8]
                  simpa using hown1
                case measure => simp [intOf]; omega
              · obtain rfl : j = x := by omega
                have hb2 : Me.BitsAt wr (w.heap.size + 1) w.heap.size b := by
                  obtain ⟨PA, PC, hblk, hpv⟩ := hb.shape
                  exact ⟨_, hblk.below hbel2 hblk.lt, hpv.below hbel2⟩
                have hl2 : Me.ListV wr (.slice LA j LC) (some (Pu.litBits j q)) := by
                  refine .inr ⟨_, rfl, fun h => ?_, ?_⟩
                  · injection h with _ h _
                    omega
                  · rw [Pu.litBits_length]
                    exact ⟨hown.1, hown.2.imp id fun ⟨g, cap, cur, e1, _, e2⟩ => ⟨g, cap, cur, e1, Nat.zero_le _, e2⟩⟩
                have hres2 := hres.below hbel2 hres.lt
                go_wp2_with fail
                refine (add_any (w.heap.size + 1) w.heap.size b j 0 (some (Pu.litBits j q)) (.slice LA j LC) wr (by omega) hb2 hl2 hlong (by omega) (by omega) (by omega)).mono ?_
                rintro e w3 ⟨hf, hm⟩
                have HF := Lib.hid hf
                have hr3 : Me.Blk w3 w.heap.size 30 #[Value.slice none 0 0, Value.int IntKind.i64 0] := hres2.fr hf (addM_ne (by omega))
                have hbel3 := (hbel.trans (hbel2.mono hbel.size)).trans hf.below
                have HS3 := Lib.hid ((hbel3.setCell (p := ⟨w.heap.size, 0, none⟩) (Nat.le_refl _) (.slice none 0 0)).setCell (p := ⟨w.heap.size, 1, none⟩) (Nat.le_refl _) (.int .i64 0))
                have t0 : w3.cell? ⟨w.heap.size, 0, none⟩ = some (.slice none 0 0) := hr3.cell 0
                have t1 : w3.cell? ⟨w.heap.size, 1, none⟩ = some (.int .i64 0) := hr3.cell 1
                have p0 := hr3.frozen 0
                have p1 := hr3.frozen 1
                clear hf
                have hstep : ∀ r, Pu.add b j (some (Pu.litBits j q)) 0 = r → Pu.step b j q = r.map fun b' => (b', q.drop ((j + 7) / 8)) := by
                  intro r hr
                  unfold Pu.step
                  rw [if_pos hx128, if_neg hshort, hr]
                have HST := Lib.hid hstep
                clear hstep
                cases hr : Pu.add b j (some (Pu.litBits j q)) 0 with
                | none =>
                  rw [hr] at hm
                  obtain ⟨rfl, hb'⟩ := hm
                  have HN := Lib.hid (HE.out.symm.trans (Pu.rd_none HX0.out (HST.out _ hr)))
                  clear hr
                  go_wp2
                  refine bodyPost_ret (v := .tuple #[.agg #[.slice none 0 0, .int .i64 0], .bool false]) (by simp [results, Try.results20, go_sem, t0, t1]) rfl ?_
                  exact readPost_bad HN.out HS3.out
                | some b' =>
                  rw [hr] at hm
                  obtain ⟨rfl, hb'⟩ := hm
                  have HN := Lib.hid ((Pu.rd_some HX0.out (HST.out _ hr)).symm.trans HE.out)
                  have HB := Lib.hid (Pu.add_bd hr)
                  clear hr
                  go_wp2
                  go_roundw
                  case rel =>
                    have hbd := HB.out
                    refine ⟨b', q.drop ((j + 7) / 8), A2, _, by rw [List.length_drop], by rw [List.length_drop]; omega, by omega, fun z hz => h8' z (List.mem_cons_of_mem _ (List.mem_of_mem_drop hz)), ?_, hb', by omega, by rw [List.length_drop]; omega, hr3, hbel3, HN.out⟩
                    have h1 := HT2.out.below (hbel2.mono hbel.size) (Nat.le_refl _)
                    have h2 := h1.below HF.out.below (Nat.le_refl _)
                    simpa using h2
                  case measure => simp [Me.lenOf]; omega
        · have hz1 : decide ((x : Int) < 128) = false := by simp; omega
          go_upto_if 74 with (fail)
          go_cut [0, 9, 10] (fun s0 s9 s10 wx => ∃ (nq n : Nat) (q1 : List Nat) (A3 : Option Addr) (c3 : Nat) (ok : Bool), wr.drewN nq = wx ∧ s0 = .slice A3 q1.length c3 ∧ s9 = .int .i64 (n : Int) ∧ s10 = .bool ok ∧
            q1.length ≤ c3 ∧ c3 ≤ 9223372036854775807 ∧ (∀ z ∈ q1, z < 256) ∧ Me.Sl wr w.heap.size A3 (q1.map Me.b8) ∧ n < 4611686018427387904 ∧ q1.length ≤ q.length ∧ Hid ((ok = true ∧ Pu.hdr x q = some (n, q1)) ∨ (ok = false ∧ Pu.hdr x q = none)))
          case first =>
            by_cases hx : x = 128
            · have hzx : ((x : Int) - 128 == 0) = true := beq_iff_eq.2 (by omega)
              have HX := Lib.hid hx
              clear hx
              go_wp2_with fail
              refine (svarint_any q A1 (c' - 1) w.heap.size wr (by omega) (by unfold maxLen; omega) (fun z hz => h8' z (List.mem_cons_of_mem _ hz)) (by simpa using HT.out)).mono ?_
              rintro e w' ⟨⟨nq, rfl⟩, hm⟩
              cases hd : Pu.dec q with
              | none =>
                rw [hd] at hm
                obtain rfl := hm
                have HD := Lib.hid (show Pu.hdr x q = none by unfold Pu.hdr; rw [if_pos HX.out]; exact hd)
                clear hd
                go_wp2_with fail
                go_meet
                exact ⟨nq, 0, [], none, 0, false, rfl, rfl, rfl, rfl, by simp, by omega, by simp, .inl rfl, by omega, by simp, .inr ⟨rfl, HD.out⟩⟩
              | some y =>
                rw [hd] at hm
                obtain ⟨A3, c3, rfl, h1, h2, h3⟩ := hm
                have HD := Lib.hid (show Pu.hdr x q = some (y.1, y.2) by unfold Pu.hdr; rw [if_pos HX.out]; exact hd)
                have HD2 := Lib.hid hd
                clear hd
                unfold maxLen at h2
                go_wp2_with fail
                go_meet
                exact ⟨nq, y.1, y.2, A3, c3, true, rfl, rfl, rfl, rfl, h1, by omega, fun z hz => h8' z (List.mem_cons_of_mem _ (Pu.dec_mem HD2.out z hz)), h3, (Pu.dec_bd (n := y.1) (rest := y.2) (fun z hz => h8' z (List.mem_cons_of_mem _ hz)) HD2.out).1, Pu.dec_len (n := y.1) (rest := y.2) HD2.out, .inl ⟨rfl, HD.out⟩⟩
            · have hzx : ((x : Int) - 128 == 0) = false := beq_eq_false_iff_ne.2 (by omega)
              have HX := Lib.hid hx
              clear hx
              go_wp2_with fail
              go_meet
              exact ⟨0, x - 128, q, A1, c' - 1, true, rfl, rfl, by go_num, rfl, by omega, by omega, fun z hz => h8' z (List.mem_cons_of_mem _ hz), by simpa using HT.out, by omega, by omega, .inl ⟨rfl, by unfold Pu.hdr; rw [if_neg HX.out]⟩⟩
          case rest =>
            obtain ⟨nq, n, q1', A3, c3, ok, rfl, rfl, rfl, rfl, hc3, hcm3, h83, hS3, hn3, hq3, HH⟩ := hcut
            go_wp2_with fail
            refine (svarint_any q1' A3 c3 w.heap.size (wr.drewN nq) hc3 (by unfold maxLen; omega) h83 (hS3.drewN nq)).mono ?_
            rintro e w' ⟨⟨nq2, rfl⟩, hm⟩
            cases hd : Pu.dec q1' with
            | none =>
              rw [hd] at hm
              obtain rfl := hm
              have HN := Lib.hid (HE.out.symm.trans (Pu.rd_none HX0.out (by
                unfold Pu.step
                rw [if_neg hx128]
                rcases HH.out with ⟨_, h⟩ | ⟨_, h⟩
                · rw [h]; simp [hd]
                · rw [h]; rfl)))
              clear hd
              cases ok with
              | false =>
                go_wp2
                refine bodyPost_ret (v := .tuple #[.agg #[.slice none 0 0, .int .i64 0], .bool false]) (by simp [results, Try.results20, go_sem, r0, r1]) rfl ?_
                exact readPost_bad HN.out (((Me.below_drewN hbel _).setCell (p := ⟨w.heap.size, 0, none⟩) (Nat.le_refl _) _).setCell (p := ⟨w.heap.size, 1, none⟩) (Nat.le_refl _) _)
              | true =>
                go_wp2
                refine bodyPost_ret (v := .tuple #[.agg #[.slice none 0 0, .int .i64 0], .bool false]) (by simp [results, Try.results20, go_sem, r0, r1]) rfl ?_
                exact readPost_bad HN.out (((Me.below_drewN hbel _).setCell (p := ⟨w.heap.size, 0, none⟩) (Nat.le_refl _) _).setCell (p := ⟨w.heap.size, 1, none⟩) (Nat.le_refl _) _)
            | some y =>
              rw [hd] at hm
              obtain ⟨A4, c4, rfl, h1, h2, h3⟩ := hm
              cases ok with
              | false =>
                have HN := Lib.hid (HE.out.symm.trans (Pu.rd_none HX0.out (by
                  unfold Pu.step
                  rw [if_neg hx128]
                  rcases HH.out with ⟨h, _⟩ | ⟨_, h⟩
                  · cases h
                  · rw [h]; rfl)))
                clear hd
                go_wp2
                refine bodyPost_ret (v := .tuple #[.agg #[.slice none 0 0, .int .i64 0], .bool false]) (by simp [results, Try.results20, go_sem, r0, r1]) rfl ?_
                exact readPost_bad HN.out (((Me.below_drewN hbel _).setCell (p := ⟨w.heap.size, 0, none⟩) (Nat.le_refl _) _).setCell (p := ⟨w.heap.size, 1, none⟩) (Nat.le_refl _) _)
              | true =>
                have hhdr : Pu.hdr x q = some (n, q1') := by
                  rcases HH.out with ⟨_, h⟩ | ⟨h, _⟩
                  · exact h
                  · cases h
                have hstep : ∀ r, Pu.again b n y.1 = r → Pu.step b x q = r.map fun b' => (b', y.2) := by
                  intro r hr
                  unfold Pu.step
                  rw [if_neg hx128, hhdr]
                  simp only [Option.bind_some, hd]
                  rw [hr]
                have HST := Lib.hid hstep
                have hy1 := (Pu.dec_bd (n := y.1) (rest := y.2) h83 hd).1
                have hy2 := Pu.dec_len (n := y.1) (rest := y.2) hd
                have HD := Lib.hid hd
                clear hstep hhdr hd
                unfold maxLen at h2
                go_wp2_with fail
                have hb2 : Me.BitsAt (wr.drewN (nq + nq2)) (w.heap.size + 1) w.heap.size b := by
                  obtain ⟨v, hblk, hpv⟩ := hb
                  exact ⟨v, hblk, hpv.drewN⟩
                have hres2 : Me.Blk (wr.drewN (nq + nq2)) w.heap.size 30 #[.slice none 0 0, .int .i64 0] := hres
                refine (again_any (w.heap.size + 1) w.heap.size b n y.1 (wr.drewN (nq + nq2)) (by omega) hb2 hlong (by omega) (by omega) (by omega) (by omega) (by omega)).mono ?_
                rintro e w3 ⟨hf, hm⟩
                have HF := Lib.hid hf
                have hr3 : Me.Blk w3 w.heap.size 30 #[Value.slice none 0 0, Value.int IntKind.i64 0] := hres2.fr hf (addM_ne (by omega))
                have hbel3 := (Me.below_drewN hbel (nq + nq2)).trans hf.below
                have HS3 := Lib.hid ((hbel3.setCell (p := ⟨w.heap.size, 0, none⟩) (Nat.le_refl _) (.slice none 0 0)).setCell (p := ⟨w.heap.size, 1, none⟩) (Nat.le_refl _) (.int .i64 0))
                have t0 : w3.cell? ⟨w.heap.size, 0, none⟩ = some (.slice none 0 0) := hr3.cell 0
                have t1 : w3.cell? ⟨w.heap.size, 1, none⟩ = some (.int .i64 0) := hr3.cell 1
                have p0 := hr3.frozen 0
                have p1 := hr3.frozen 1
                clear hf
                cases hr : Pu.again b n y.1 with
                | none =>
                  rw [hr] at hm
                  obtain ⟨rfl, hb'⟩ := hm
                  have HN := Lib.hid (HE.out.symm.trans (Pu.rd_none HX0.out (HST.out _ hr)))
                  clear hr
                  go_wp2
                  refine bodyPost_ret (v := .tuple #[.agg #[.slice none 0 0, .int .i64 0], .bool false]) (by simp [results, Try.results20, go_sem, t0, t1]) rfl ?_
                  exact readPost_bad HN.out HS3.out
                | some b' =>
                  rw [hr] at hm
                  obtain ⟨rfl, hb'⟩ := hm
                  have HN := Lib.hid ((Pu.rd_some HX0.out (HST.out _ hr)).symm.trans HE.out)
                  have HB := Lib.hid (Pu.again_bd hr)
                  clear hr
                  go_wp2
                  go_roundw
                  case rel =>
                    have hbd := HB.out
                    exact ⟨b', y.2, A4, c4, rfl, h1, by omega, fun z hz => h83 z (Pu.dec_mem HD.out z hz), (show Me.Sl (wr.drewN (nq + nq2)) w.heap.size A4 _ from h3).below HF.out.below (Nat.le_refl _), hb', by omega, by omega, hr3, hbel3, HN.out⟩
                  case measure => simp [Me.lenOf]; omega
end Go.Proofs.Ytnkkpdpjkfjmnaa
