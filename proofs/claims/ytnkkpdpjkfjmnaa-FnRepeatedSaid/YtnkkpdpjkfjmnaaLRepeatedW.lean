/-
  The walk of the law FnRepeated.
-/
import Derived.Test.YtnkkpdpjkfjmnaaPat
import Derived.Test.YtnkkpdpjkfjmnaaApp2
import Derived.WalkSpells
import Derived.Deep.DeepCutAuto
namespace Go.Proofs.Ytnkkpdpjkfjmnaa.fnRepeated
open Go.RowKit
open Go.Proofs.Ytnkkpdpjkfjmnaa.Me (IsRow)
set_option linter.unusedVariables false

/-- the cells of the places that are on -/
def onCells (on : List Bool) : Array Value := (on.map Value.bool).toArray
def off300 : List Bool := List.replicate 300 false
theorem zero48 (W : World) : (zeroValue 48).run Try.prog W = .ok (.agg (onCells off300)) W := by kernel_rfl
theorem off300_length : off300.length = 300 := List.length_replicate
theorem onCells_get (on : List Bool) (i : Nat) (hi : i < on.length) : (onCells on)[i]? = some (.bool (on.getD i false)) := by
  simp [onCells, List.getD, hi]
theorem onCells_set (on : List Bool) (i : Nat) : (onCells on).setIfInBounds i (.bool true) = onCells (on.set i true) := by
  simp [onCells, List.map_set]

set_option maxRecDepth 100000 in
set_option maxHeartbeats 4000000 in
theorem walk (a0 : Option Addr) (len0 cap0 : Nat) (z0 : List Int) (a1 a2 : Int) (w : World) (w0 : IsRow .i64 w a0 len0 cap0 z0) (w1' : (Lit.int .i64 a1).wf = true) (w2' : (Lit.int .i64 a2).wf = true) :
    Calls Try.prog 10 #[.slice a0 len0 cap0, .int .i64 a1, .int .i64 a2] w fun e w' => e = .returned (.bool true) ∧ Below w.heap.size w w' := by
  obtain ⟨hl, hm⟩ := w0.le
  obtain ⟨hgl, hS, hwf⟩ := w0.sl
  obtain ⟨ha1, ha2⟩ := Me.wf_i64 w1'
  obtain ⟨hb1', hb2'⟩ := Me.wf_i64 w2'
  generalize z0.take len0 = gs at hgl hS hwf
  clear w0 w1' w2'
  subst hgl
  unfold maxLen at hm
  by_cases hbig : 2147483647 < gs.length
  · go_enter Try.func10, Try.ntmps10
    go_wp2
    go_ret
    exact ⟨rfl, Below.refl _ _⟩
  have hp' := Pu.plcN_lt a1 300 (by omega)
  have hq' := Pu.plcN_lt a2 201 (by omega)
  obtain ⟨p, hp⟩ : ∃ p, Pu.plcN a1 300 = p := ⟨_, rfl⟩
  obtain ⟨T, hq⟩ : ∃ q, Pu.plcN a2 201 = q := ⟨_, rfl⟩
  rw [hp] at hp'
  rw [hq] at hq'
  have HP := Lib.hid hp
  have HQ := Lib.hid hq
  have hz48 := zero48
  clear hp hq
  go_enter Try.func10, Try.ntmps10
  go_wp2_with (first
    | (go_at_call_of 17 (Value.int IntKind.i64 a1); refine (place_nat a1 300 _ ha1 ha2 (by omega) (by omega)).mono ?_; rintro e w' ⟨he, rfl⟩; rw [HP.out] at he; subst he)
    | (go_at_call 17; refine (place_nat a2 201 _ hb1' hb2' (by omega) (by omega)).mono ?_; rintro e w' ⟨he, rfl⟩; rw [HQ.out] at he; subst he))
  rw [show 1 + (p : Int) = ((p + 1 : Nat) : Int) by omega]
  have hL1 : 1 ≤ p + 1 := by omega
  have hL3 : p + 1 ≤ 300 := by omega
  generalize p + 1 = L at hL1 hL3 ⊢
  have hT : T ≤ 200 := by omega
  clear hp' HP HQ hq'
  go_loopw [29] (fun k wr => ∃ (j : Nat) (onB : List Bool), k = .int .i64 j ∧ j ≤ gs.length ∧ onB.length = 300 ∧ Me.Blk wr w.heap.size 48 (onCells onB) ∧ Below w.heap.size w wr)
    (fun k _ => gs.length - (intOf k).toNat)
  case atStart => exact ⟨0, off300, rfl, Nat.zero_le _, off300_length, Me.Blk.new _ _ _, bnew _ _⟩
  case round =>
    obtain ⟨j, onB, rfl, hj, hon, hblk, hbel⟩ := hrel
    by_cases hlt : j < gs.length
    · obtain ⟨g, hg⟩ : ∃ g, gs[j]? = some g := ⟨gs[j], List.getElem?_eq_getElem hlt⟩
      obtain ⟨hg1, hg2⟩ := Me.wf_i64 (hwf g (List.mem_of_getElem? hg))
      obtain ⟨bb, off, rfl, hbb, hq⟩ : ∃ bb off, a0 = some ⟨bb, off, none⟩ ∧ bb < w.heap.size ∧ w.cell? ⟨bb, off + j, none⟩ = some (.int .i64 g) := by
        rcases hS with h | ⟨bb, off, e, hb, hcl⟩
        · rw [List.map_eq_nil_iff] at h
          rw [h] at hg
          simp at hg
        · exact ⟨bb, off, e, hb, hcl j _ (by simp [hg])⟩
      have k1 : wr.cell? ⟨bb, off + j, none⟩ = some (.int .i64 g) := (hbel.cell (p := ⟨bb, off + j, none⟩) hbb).trans hq
      have hn' := Pu.plcN_lt g L (by omega)
      obtain ⟨n, hn⟩ : ∃ n, Pu.plcN g L = n := ⟨_, rfl⟩
      rw [hn] at hn'
      have HN := Lib.hid hn
      have hn3 : n < 300 := by omega
      have c0 : wr.cell? ⟨w.heap.size, n, none⟩ = some (.bool (onB.getD n false)) := (hblk.cell n).trans (onCells_get onB n (by omega))
      have f0 := hblk.frozen n
      have h1s : (1 : Int) ≤ L := by omega
      have h2s : (L : Int) ≤ 9223372036854775807 := by omega
      clear hn hg hq
      go_wp2_with (go_at_call 17; refine (place_nat g L _ hg1 hg2 h1s h2s).mono ?_; rintro e w' ⟨he, rfl⟩; rw [HN.out] at he; subst he)
      go_roundw
      case rel =>
        refine ⟨j + 1, onB.set n true, by go_num, by omega, by simpa using hon, ?_, hbel.setCell (p := ⟨w.heap.size, n, none⟩) (Nat.le_refl _) _⟩
        have := hblk.set_ n (.bool true)
        rw [onCells_set] at this
        exact this
      case measure => simp [intOf]; omega
    · have hjn : j = gs.length := by omega
      subst hjn
      clear hS hwf
      go_wp2_with fail
      go_loopw [10, 11, 40] (fun s10 s11 k wr => ∃ (j ns na : Nat) (sh al : List Pu.Op) (SA AA : Option Addr) (SC AC : Nat), k = .int .i64 j ∧ s10 = .slice SA ns SC ∧ s11 = .slice AA na AC ∧ j ≤ T + 1 ∧ ns ≤ 300 * j ∧ na ≤ 300 * j ∧ Hid (sh.length = ns) ∧ Hid (al.length = na) ∧ Hid (Pu.PatOk (fun i => onB.getD i false) sh (if j = 0 then 0 else L)) ∧ Hid (Pu.PatOk (fun i => onB.getD (i % L) false) al (j * L)) ∧ wr.ownsRow (w.heap.size + 1) 45 3 (.slice SA ns SC) ns (opCells sh) ∧ wr.ownsRow (w.heap.size + 1) 45 3 (.slice AA na AC) na (opCells al) ∧ Me.Apart (.slice SA ns SC) (.slice AA na AC) ∧ Me.Blk wr w.heap.size 48 (onCells onB) ∧ Below w.heap.size w wr)
        (fun _ _ k _ => T + 1 - (intOf k).toNat)
      case atStart => exact ⟨0, 0, 0, [], [], none, none, 0, 0, rfl, rfl, rfl, Nat.zero_le _, Nat.le_refl _, Nat.le_refl _, rfl, rfl, Pu.patOk_nil _, (by rw [Nat.zero_mul]; exact Lib.hid (Pu.patOk_nil _)), World.ownsRow_nil _ _ _ _, World.ownsRow_nil _ _ _ _, Me.apart_nil _, hblk, hbel⟩
      case round =>
        obtain ⟨j, ns, na, sh, al, SA, AA, SC, AC, rfl, rfl, rfl, hj, hns, hna, HNS, HNA, HPS, HPA, hos, hoa, hap, hblk2, hbel2⟩ := hrel
        clear hbel hblk
        by_cases hlt2 : j < T + 1
        · go_wp2_with fail
          go_loopw [10, 11, 44] (fun s10 s11 k wr => ∃ (i ns na : Nat) (sh al : List Pu.Op) (SA AA : Option Addr) (SC AC : Nat), k = .int .i64 i ∧ s10 = .slice SA ns SC ∧ s11 = .slice AA na AC ∧ i ≤ L ∧ ns ≤ 300 * j + i ∧ na ≤ 300 * j + i ∧ Hid (sh.length = ns) ∧ Hid (al.length = na) ∧ Hid (Pu.PatOk (fun i => onB.getD i false) sh (if j = 0 then i else L)) ∧ Hid (Pu.PatOk (fun i => onB.getD (i % L) false) al (j * L + i)) ∧ wr.ownsRow (w.heap.size + 1) 45 3 (.slice SA ns SC) ns (opCells sh) ∧ wr.ownsRow (w.heap.size + 1) 45 3 (.slice AA na AC) na (opCells al) ∧ Me.Apart (.slice SA ns SC) (.slice AA na AC) ∧ Me.Blk wr w.heap.size 48 (onCells onB) ∧ Below w.heap.size w wr)
            (fun _ _ k _ => L - (intOf k).toNat)
          case atStart => exact ⟨0, ns, na, sh, al, SA, AA, SC, AC, rfl, rfl, rfl, Nat.zero_le _, hns, hna, HNS, HNA, HPS, HPA, hos, hoa, hap, hblk2, hbel2⟩
          case round =>
            clear hos hoa hap hblk2 hbel2 HNS HNA HPS HPA hns hna
            obtain ⟨i, ns, na, sh, al, SA, AA, SC, AC, rfl, rfl, rfl, hi, hns, hna, HNS, HNA, HPS, HPA, hos, hoa, hap, hblk, hbel⟩ := hrel
            by_cases hlt3 : i < L
            · obtain ⟨x, hx⟩ : ∃ x, onB.getD i false = x := ⟨_, rfl⟩
              have c0 : wr.cell? ⟨w.heap.size, i, none⟩ = some (.bool x) := (hblk.cell i).trans (by rw [onCells_get onB i (by omega), hx])
              have hmod : (j * L + i) % L = i := by rw [Nat.mul_comm, Nat.mul_add_mod, Nat.mod_eq_of_lt hlt3]
              have HF := Lib.hid (show onB.getD ((j * L + i) % L) false = x by rw [hmod, hx])
              have HX := Lib.hid hx
              clear hx hmod
              cases x
              · go_wp2_with fail
                go_roundw
                case rel =>
                  refine ⟨i + 1, ns, na, sh, al, SA, AA, SC, AC, by go_num, rfl, rfl, by omega, by omega, by omega, HNS, HNA, ?_, Lib.hid (Pu.patOk_off HPA.out HF.out), hos, hoa, hap, hblk, hbel⟩
                  by_cases hj0 : j = 0
                  · have := HPS.out
                    rw [if_pos hj0] at this ⊢
                    exact Lib.hid (Pu.patOk_off this HX.out)
                  · have := HPS.out
                    rw [if_neg hj0] at this ⊢
                    exact Lib.hid this
                case measure => simp [intOf]; omega
              · have hv1 : j * L ≤ 200 * 300 := Nat.mul_le_mul (by omega) hL3
                have hv2 : (j : Int) * (L : Int) ≤ 60000 := by have := Int.ofNat_le.2 hv1; simpa using this
                have hv3 : 0 ≤ (j : Int) * (L : Int) := Int.mul_nonneg (by omega) (by omega)
                have HV := Lib.hid (show ((j * L + i : Nat) : Int) = (j : Int) * (L : Int) + (i : Int) by simp)
                have h3 := Me.ones3 (x := .int .i64 0) (y := .int .i64 ((j : Int) * (L : Int) + (i : Int))) (z := .int .i64 0) rfl rfl rfl
                have hjb : (na + 1) * 24 ≤ 140737488355328 := by omega
                have hjb2 : (ns + 1) * 24 ≤ 140737488355328 := by omega
                have hoa1 := hoa.alloc (Obj.cells #[Value.int IntKind.i64 0, Value.int IntKind.i64 (↑j * ↑L + ↑i), Value.int IntKind.i64 0] 45)
                have hos1 := hos.alloc (Obj.cells #[Value.int IntKind.i64 0, Value.int IntKind.i64 (↑j * ↑L + ↑i), Value.int IntKind.i64 0] 45)
                have hbel1 := balloc hbel (Obj.cells #[Value.int IntKind.i64 0, Value.int IntKind.i64 (↑j * ↑L + ↑i), Value.int IntKind.i64 0] 45)
                have hsz := hbel1.size
                have hbase : w.heap.size + 1 ≤ (wr.alloc (Obj.cells #[Value.int IntKind.i64 0, Value.int IntKind.i64 (↑j * ↑L + ↑i), Value.int IntKind.i64 0] 45)).heap.size := by rw [World.size_alloc]; have := hbel.size; omega
                have b45 := Me.Blk.new wr 45 #[Value.int IntKind.i64 0, Value.int IntKind.i64 (↑j * ↑L + ↑i), Value.int IntKind.i64 0]
                have hne45 : some wr.heap.size ≠ (Value.slice AA na AC).ownBlock := by
                  intro h
                  have := (hoa.lt _ h.symm).2
                  omega
                have hne48 := Me.own_ne hoa hblk (by decide)
                have hblk1 := hblk.alloc (Obj.cells #[Value.int IntKind.i64 0, Value.int IntKind.i64 (↑j * ↑L + ↑i), Value.int IntKind.i64 0] 45)
                have hfin : ∀ (A2 : Option Addr) (c2 : Nat) (w3 : World), w3.ownsRow (w.heap.size + 1) 45 3 (.slice A2 (na + 1) c2) (na + 1) (opCells al ++ [Value.int IntKind.i64 0, Value.int IntKind.i64 ((j : Int) * (L : Int) + (i : Int)), Value.int IntKind.i64 0]) → w3.ownsRow (w.heap.size + 1) 45 3 (.slice A2 (na + 1) c2) (na + 1) (opCells (al ++ [⟨0, ((j * L + i : Nat) : Int), 0⟩])) := by
                  intro A2 c2 w3 h
                  rw [opCells_append, HV.out]
                  exact h
                have hPA2 := Pu.patOk_on HPA.out HF.out (by omega)
                by_cases hj0 : j = 0
                · have hj0' : ((j : Int) == 0) = true := by simp [hj0]
                  have hPS2 : Pu.PatOk (fun i => onB.getD i false) (sh ++ [⟨0, ((j * L + i : Nat) : Int), 0⟩]) (if j = 0 then i + 1 else L) := by
                    have := HPS.out
                    rw [if_pos hj0] at this ⊢
                    rw [show j * L + i = i by rw [hj0, Nat.zero_mul, Nat.zero_add]]
                    exact Pu.patOk_on this HX.out (by omega)
                  have HJ0 := Lib.hid hj0
                  have HPA2 := Lib.hid hPA2
                  have HPS2 := Lib.hid hPS2
                  clear hj0 hPA2 hPS2
                  go_wp2_with (first
                    | (at_builtin; refine Me.wpList_appd el45 rfl hoa1 _ _ rfl rfl (by rw [World.size_alloc]; rfl) Nat.one_pos rfl h3 hjb hbase ?_; intro A2 c2 w3 hc2 hcm2 hown3 hg3 hsn3; have b3 := b45.grown hg3 hne45; have d0 : w3.cell? ⟨wr.heap.size, 0, none⟩ = some (.int .i64 0) := b3.cell 0; have d1 : w3.cell? ⟨wr.heap.size, 1, none⟩ = some (.int .i64 ((j : Int) * (L : Int) + (i : Int))) := b3.cell 1; have d2 : w3.cell? ⟨wr.heap.size, 2, none⟩ = some (.int .i64 0) := b3.cell 2; have hlt45 : wr.heap.size < w3.heap.size := b3.lt; have hos3 := Me.own_apart hos1 hg3 hap.symm; have hap3 := Me.Apart.next hap.symm hsn3 hos1; have hbel3 := hbel1.grown hg3 hsz (fun k hk => by have := (hoa1.lt k hk).1; omega); have hblk3 := hblk1.grown hg3 hne48; have hbase3 : w.heap.size + 1 ≤ w3.heap.size := by (have := hg3.size; omega))
                    | (at_builtin; refine Me.wpList_appd el45 rfl hos3 _ _ rfl rfl rfl Nat.one_pos rfl h3 hjb2 hbase3 ?_; intro A4 c4 w4 hc4 hcm4 hown4 hg4 hsn4))
                  go_roundw
                  case rel =>
                    refine ⟨_, _, _, _, _, ⟨i + 1, rfl, ns + 1, na + 1, sh ++ [⟨0, ((j * L + i : Nat) : Int), 0⟩], al ++ [⟨0, ((j * L + i : Nat) : Int), 0⟩], A4, A2, c4, rfl, c2, rfl, by omega, by have := HJ0.out; omega, by have := HJ0.out; omega, ?_, ?_, ?_, ?_, ?_, hfin _ _ _ (Me.own_apart hown3 hg4 hap3.symm), Me.Apart.next hap3.symm hsn4 hown3, hblk3.grown hg4 (Me.own_ne hos3 hblk3 (by decide)), hbel3.grown hg4 hbel3.size (fun k hk => by have := (hos3.lt k hk).1; omega)⟩, rfl, rfl, rfl, rfl, by go_num⟩
                    · show (sh ++ [_]).length = ns + 1
                      simp [HNS.out]
                    · show (al ++ [_]).length = na + 1
                      simp [HNA.out]
                    · have := HPS2.out
                      rw [if_pos HJ0.out] at this
                      exact this
                    · have := HPA2.out
                      rw [show j * L + i + 1 = i + 1 by rw [HJ0.out]; omega] at this
                      exact this
                    · rw [opCells_append, HV.out]
                      exact hown4
                  case measure => simp [intOf]; omega
                · have hj0' : ((j : Int) == 0) = false := by simp [hj0]
                  have HJ0 := Lib.hid hj0
                  have HPA2 := Lib.hid hPA2
                  clear hj0 hPA2
                  go_wp2_with (first
                    | (at_builtin; refine Me.wpList_appd el45 rfl hoa1 _ _ rfl rfl (by rw [World.size_alloc]; rfl) Nat.one_pos rfl h3 hjb hbase ?_; intro A2 c2 w3 hc2 hcm2 hown3 hg3 hsn3))
                  go_roundw
                  case rel =>
                    refine ⟨_, _, _, _, _, ⟨i + 1, rfl, ns, na + 1, sh, al ++ [⟨0, ((j * L + i : Nat) : Int), 0⟩], SA, A2, SC, rfl, c2, rfl, by omega, by omega, by omega, HNS, ?_, ?_, ?_, Me.own_apart hos1 hg3 hap.symm, hfin _ _ _ hown3, (Me.Apart.next hap.symm hsn3 hos1).symm, hblk1.grown hg3 hne48, hbel1.grown hg3 hsz (fun k hk => by have := (hoa1.lt k hk).1; omega)⟩, rfl, rfl, rfl, rfl, by go_num⟩
                    · show (al ++ [_]).length = na + 1
                      simp [HNA.out]
                    · have := HPS.out
                      rw [if_neg HJ0.out] at this
                      exact this
                    · exact HPA2
                  case measure => simp [intOf]; omega
            · have hil : i = L := by omega
              subst hil
              go_wp2_with fail
              go_roundw
              case rel =>
                refine ⟨j + 1, ns, na, sh, al, SA, AA, SC, AC, by go_num, rfl, rfl, by omega, by omega, by omega, HNS, HNA, ?_, ?_, hos, hoa, hap, hblk, hbel⟩
                · have := HPS.out
                  rw [ite_self] at this
                  rw [if_neg (by omega)]
                  exact Lib.hid this
                · rw [Nat.succ_mul]
                  exact HPA
              case measure => simp [intOf]; omega
        · have hjT : j = T + 1 := by omega
          subst hjT
          have hps : Pu.PatOk (fun i => onB.getD i false) sh L := by
            have := HPS.out
            rw [if_neg (by omega)] at this
            exact this
          have hpa : Pu.PatOk (fun i => onB.getD (i % L) false) al (L * (T + 1)) := by
            have := HPA.out
            rw [Nat.mul_comm] at this
            exact this
          have hv1 : L * (T + 1) ≤ 300 * 201 := Nat.mul_le_mul hL3 (by omega)
          have hv2 : (L : Int) * ((T : Int) + 1) ≤ 60300 := by have := Int.ofNat_le.2 hv1; simpa using this
          have hv3 : 0 ≤ (L : Int) * ((T : Int) + 1) := Int.mul_nonneg (by omega) (by omega)
          obtain ⟨S, U, hO, hO2, hST⟩ := Pu.rep_same hL1 (by omega) hps hpa
          rw [show ((L * (T + 1) : Nat) : Int) = (L : Int) * ((T : Int) + 1) by simp] at hO2
          have HO := Lib.hid hO
          have HO2 := Lib.hid hO2
          have HST := Lib.hid hST
          have h6 : ∀ u ∈ [Value.int IntKind.i64 1, .int .i64 (L : Int), .int .i64 0, .int .i64 2, .int .i64 (L : Int), .int .i64 (T : Int)], u.oneCell' = true := opCells_one [⟨1, (L : Int), 0⟩, ⟨2, (L : Int), (T : Int)⟩]
          have h3 := Me.ones3 (x := .int .i64 1) (y := .int .i64 ((L : Int) * ((T : Int) + 1))) (z := .int .i64 0) rfl rfl rfl
          have hjb : (na + 1) * 24 ≤ 140737488355328 := by omega
          have hjb2 : (ns + 2) * 24 ≤ 140737488355328 := by omega
          have hbase : w.heap.size + 1 ≤ wr.heap.size := hblk2.lt
          have hsz := hbel2.size
          have h2p : 0 < 2 := by omega
          clear hO hO2 hST hps hpa HPS HPA
          go_wp2_with (first
            | (at_builtin; refine Me.wpList_appd el45 rfl hos _ _ rfl rfl rfl h2p rfl h6 hjb2 hbase ?_; intro A2 c2 w3 hc2 hcm2 hown3 hg3 hsn3; have hoa3 := Me.own_apart hoa hg3 hap; have hap3 := Me.Apart.next hap hsn3 hoa; have hbel3 := hbel2.grown hg3 hsz (fun k hk => by have := (hos.lt k hk).1; omega); have hbase3 : w.heap.size + 1 ≤ w3.heap.size := by (have := hg3.size; omega))
            | (at_builtin; refine Me.wpList_appd el45 rfl hoa3 _ _ rfl rfl rfl Nat.one_pos rfl h3 hjb hbase3 ?_; intro A4 c4 w4 hc4 hcm4 hown4 hg4 hsn4))
          have hbel4 := hbel3.grown hg4 hbel3.size (fun k hk => by have := (hoa3.lt k hk).1; omega)
          have hown34 := Me.own_apart hown3 hg4 hap3.symm
          have hSs : Me.Sl w4 w4.heap.size A2 (opCells (sh ++ [⟨1, (L : Int), 0⟩, ⟨2, (L : Int), (T : Int)⟩])) := by
            rw [opCells_append]
            exact Me.Sl.of_ownN hown34
          have hSa : Me.Sl w4 w4.heap.size A4 (opCells (al ++ [⟨1, (L : Int) * ((T : Int) + 1), 0⟩])) := by
            rw [opCells_append]
            exact Me.Sl.of_ownN hown4
          have hls : (sh ++ ([⟨1, (L : Int), 0⟩, ⟨2, (L : Int), (T : Int)⟩] : List Pu.Op)).length = ns + 2 := by simp [HNS.out]
          have hla : (al ++ ([⟨1, (L : Int) * ((T : Int) + 1), 0⟩] : List Pu.Op)).length = na + 1 := by simp [HNA.out]
          have hr1 := readlaw_any A2 c2 _ S w4 (by rw [hls]; exact hc2) hcm2 (by rw [hls]; omega) hSs HO.out
          rw [hls] at hr1
          have HLA := Lib.hid hla
          clear hls hla hown34 hown4 hown3 hos hoa
          refine hr1.mono ?_
          clear hr1
          rintro e w5 ⟨hb6, b, QA, QC, rfl, hpb, hwb, hsm, hlb⟩
          have HW1 := Lib.hid hwb
          have HS1 := Lib.hid hsm
          have hb7 := balloc (bstep hbel4 hb6) (Obj.cells #[Value.slice QA b.parts.length QC, Value.int IntKind.i64 ↑b.long] 30)
          clear hwb hsm
          go_wp2_with fail
          have hr2 := readlaw_any A4 c4 _ U (w5.alloc (Obj.cells #[Value.slice QA b.parts.length QC, Value.int IntKind.i64 ↑b.long] 30)) (by rw [HLA.out]; exact hc4) hcm4 (by rw [HLA.out]; omega) (slAt (slAt hSa hb6) (bnew w5 _)) HO2.out
          rw [HLA.out] at hr2
          refine hr2.mono ?_
          clear hr2
          rintro e w6 ⟨hb8, c, TA, TC, rfl, hpc, hwc, hsm2, hlc⟩
          have HW2 := Lib.hid hwc
          have HS2 := Lib.hid hsm2
          have hK := (Me.Blk.new w5 30 #[Value.slice QA b.parts.length QC, Value.int IntKind.i64 ↑b.long]).below hb8 (by simp)
          have k0 : w6.cell? ⟨w5.heap.size, 0, none⟩ = some (.slice QA b.parts.length QC) := hK.cell 0
          have k1 : w6.cell? ⟨w5.heap.size, 1, none⟩ = some (.int .i64 (b.long : Int)) := hK.cell 1
          have hlt5 : w5.heap.size < w6.heap.size := hK.lt
          have hp1 := ((hpb.below (bnew w5 (Obj.cells #[Value.slice QA b.parts.length QC, Value.int IntKind.i64 ↑b.long] 30))).below hb8).below (bnew w6 (Obj.cells #[Value.slice TA c.parts.length TC, Value.int IntKind.i64 ↑c.long] 30))
          have hp2 := hpc.below (bnew w6 (Obj.cells #[Value.slice TA c.parts.length TC, Value.int IntKind.i64 ↑c.long] 30))
          clear hwc hsm2 hK
          go_wp2_with fail
          refine (same_any b c QA TA QC TC _ _ _ hp1 hp2 HW1.out HW2.out hlb hlc (HS1.out.trans (HST.out.trans HS2.out.symm))).mono ?_
          rintro e w7 ⟨rfl, hb11⟩
          go_wp2
          go_ret
          exact ⟨rfl, bstep (balloc (bstep hb7 hb8) _) hb11⟩

end Go.Proofs.Ytnkkpdpjkfjmnaa.fnRepeated
