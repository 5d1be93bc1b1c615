/-
  The contract of spec.Program: the program in which each step stands by itself.
-/
import Derived.Test.YtnkkpdpjkfjmnaaRds
import Derived.Test.YtnkkpdpjkfjmnaaVar
import Derived.Test.YtnkkpdpjkfjmnaaApp2
import Derived.WalkSpells
import Derived.BigRegion
import Derived.Deep.RegionWith
import Derived.Deep.DeepCutAuto
import Derived.Deep.CutBlock
namespace Go.Proofs.Ytnkkpdpjkfjmnaa
open Go.RowKit
set_option linter.unusedVariables false

/-- append in a region that draws its order, the source somewhere -/
theorem step_app_sl {P : Program} {t e : TypeId} {size bytes : Nat} {z : Value} (E : Me.Elem P t e size bytes z) {w : World} {ops : Array Oper} {o : Oper} {a : Act} {K : Act → World → Prop} {Q : Exit → Act → World → Prop} {X : Prop} (hgd : o.guard = none) {base n m c : Nat} {v : Value} {xs news : List Value} (hown : w.ownsRow base e size v n xs)
    {B : Nat} {A : Option Addr} (hS : Me.Sl w B A news) (s x : Operand) (ho : o.op = .call { callee := .builtin .append, args := #[s, x], argTypes := #[t, t] }) (hs : a.eval s = v) (hx : a.eval x = .slice A m c)
    (hl : news.length = m * size) (h1 : ∀ u ∈ news, u.oneCell' = true) (hb : (n + m) * bytes ≤ 140737488355328) (hbase : base ≤ w.heap.size)
    (h : ∀ A' c' w', n + m ≤ c' → c' ≤ maxLen → w'.ownsRow base e size (.slice A' (n + m) c') (n + m) (xs ++ news) → w.grownBy w' v.ownBlock → K (a.put o.dst (.slice A' (n + m) c')) w') :
    if Region.wanted o (yielded ops a.tmps) = true then Oper.wp P o a w K Q else X := by
  have hw : Region.wanted o (yielded ops a.tmps) = true := by simp [Region.wanted, hgd]
  rw [if_pos hw]
  exact Me.wp_app_sl E hown hS s x ho hs hx hl h1 hb hbase fun v' w' h2 h3 _ => by
    obtain ⟨A', c', rfl, h5, h6⟩ := Me.own_shape h2
    exact h A' c' w' h5 h6 h2 h3

/-- the rows of bytes may have changed -/
def M5 (k : Nat) (t : TypeId) : Prop := t = 5
theorem m5 {k t : Nat} (h : t ≠ 5) : ¬ M5 k t := h
theorem BitsAt.fr5 {w w' : World} {B B' g : Nat} {t : Pu.Bs} (h : Me.BitsAt w g B t) (hf : Me.Fr B' M5 w w') : Me.BitsAt w' g B t := by
  obtain ⟨v, h1, h2⟩ := h
  exact ⟨v, h1.fr hf (m5 (by decide)), h2.fr hf (fun _ => m5 (by decide)) (fun _ => m5 (by decide))⟩

theorem own_add {B g base n : Nat} {cs : Array Value} {v : Value} {xs : List Value} {w w' : World} (hf : Me.Fr B (AddM g) w w') (hg : Me.Blk w g 30 cs) (h : w.ownsRow base 5 1 v n xs) : w'.ownsRow base 5 1 v n xs := by
  refine ⟨h.1, ?_⟩
  rcases h.2 with h' | ⟨k, cap, cur, e1, e2, hh, r⟩
  · exact .inl h'
  · refine .inr ⟨k, cap, cur, e1, e2, hf.keep hh (fun hm => ?_), r⟩
    rcases hm with rfl | hm
    · unfold Me.Blk at hg
      rw [hg] at hh
      injection hh with hh
      injection hh with _ ht
      cases ht
    · cases hm

/-- what is written for a step before the 'one' of a pointer -/
def CodeFor (m : Nat) (o : Pu.Op) (code : List Nat) : Prop := (o.kind = 2 → code = Pu.codeOf o.n.toNat ++ Pu.enc o.c.toNat) ∧ (o.kind ≠ 2 → code = Pu.zc (o.n - m).toNat)
def Cut3 (w w2 : World) (out : List Nat) (n : Nat) (s : Pu.Bs) (o : Pu.Op) (s3 : Value) (wx : World) : Prop :=
  ∃ (A : Option Addr) (C n2 : Nat) (code : List Nat), s3 = .slice A n2 C ∧ n2 ≤ n + 19 ∧ Hid ((out ++ code).length = n2) ∧ Hid (∀ x ∈ code, x < 256) ∧ Hid (CodeFor s.long o code) ∧ wx.ownsRow (w.heap.size + 1) 5 1 (.slice A n2 C) n2 ((out ++ code).map Me.b8) ∧ Me.Fr w.heap.size M5 w2 wx

set_option maxRecDepth 100000 in
set_option maxHeartbeats 4000000 in
theorem plain_any (A : Option Addr) (c : Nat) (l : List Pu.Op) (sf : Pu.Bs) (w : World) (hc : l.length ≤ c) (hcm : c ≤ maxLen) (hlen : l.length < 8589934592) (hf : Fits l) (hS : Me.Sl w w.heap.size A (opCells l)) (hl : Pu.ofL .empty l = some sf) :
    Calls Try.prog 28 #[.slice A l.length c] w fun e w' => ∃ out b PA PC, e = .returned (.slice PA (out ++ [0]).length PC) ∧ Pu.Rds out b sf ∧ (∀ x ∈ out, x < 256) ∧ out.length ≤ 34 * l.length ∧ (out ++ [0]).length ≤ PC ∧ PC ≤ maxLen ∧ Me.Sl w' w'.heap.size PA ((out ++ [0]).map Me.b8) ∧ Below w.heap.size w w' := by
  have HL := Lib.hid hl
  have HFt := Lib.hid hf
  clear hl hf
  unfold maxLen at hcm
  go_enter Try.func28, Try.ntmps28
  go_wp2
  go_loopw [3, 12] (fun v k wr => ∃ (j n : Nat) (out : List Nat) (b s t : Pu.Bs) (OA : Option Addr) (OC : Nat), k = .int .i64 j ∧ v = .slice OA n OC ∧ j ≤ l.length ∧ n ≤ 34 * j ∧ Hid (out.length = n) ∧ Hid (∀ x ∈ out, x < 256) ∧ Hid (Pu.Rds out b s) ∧ Hid (Pu.ofL s (l.drop j) = some sf) ∧ Hid (t.long = s.long) ∧ t.parts.length ≤ j ∧ Me.BitsAt wr w.heap.size w.heap.size t ∧ wr.ownsRow (w.heap.size + 1) 5 1 (.slice OA n OC) n (out.map Me.b8) ∧ Below w.heap.size w wr)
    (fun _ k _ => l.length - (intOf k).toNat)
  case atStart =>
    refine ⟨0, 0, [], .empty, .empty, .empty, none, 0, rfl, rfl, Nat.zero_le _, Nat.zero_le _, rfl, Lib.hid (fun x hx => by simp at hx), Lib.hid Pu.rds_empty, HL, rfl, Nat.zero_le _, ⟨.slice none 0 0, ?_, Me.PartsV.nil⟩, World.ownsRow_nil _ _ _ _, bnew _ _⟩
    have := Me.Blk.new w 30 #[Value.slice none 0 0, Value.int IntKind.i64 0]
    simpa [Pu.Bs.empty] using this
  case round =>
    obtain ⟨j, n, out, b, s, t, OA, OC, rfl, rfl, hj, hn, HN, HB, HR, HO, HT, hcnt, hbits, hown, hbel⟩ := hrel
    by_cases hlt : j < l.length
    · obtain ⟨o, ho⟩ : ∃ o, l[j]? = some o := ⟨l[j], List.getElem?_eq_getElem hlt⟩
      obtain ⟨⟨f1, f2⟩, ⟨f3, f4⟩, f5, f6⟩ := HFt.out o (List.mem_of_getElem? ho)
      obtain ⟨bb, off, rfl, hbb, q1, q2, q3⟩ := op_cells hS ho
      have k1 : wr.cell? ⟨bb, off + j * 3, none⟩ = some (.int .i64 o.kind) := (hbel.cell (p := ⟨bb, off + j * 3, none⟩) hbb).trans q1
      have k2 : wr.cell? ⟨bb, off + j * 3 + 1, none⟩ = some (.int .i64 o.n) := (hbel.cell (p := ⟨bb, off + j * 3 + 1, none⟩) hbb).trans q2
      have k3 : wr.cell? ⟨bb, off + j * 3 + 2, none⟩ = some (.int .i64 o.c) := (hbel.cell (p := ⟨bb, off + j * 3 + 2, none⟩) hbb).trans q3
      have hdr : l.drop j = o :: l.drop (j + 1) := by
        rw [List.drop_eq_getElem_cons hlt]
        rw [List.getElem?_eq_getElem hlt] at ho
        injection ho with ho
        rw [ho]
      obtain ⟨s1, hs1, hrest⟩ : ∃ s1, Pu.ofStep s o = some s1 ∧ Pu.ofL s1 (l.drop (j + 1)) = some sf := by
        have h := HO.out
        rw [hdr] at h
        simp only [Pu.ofL] at h
        cases hs : Pu.ofStep s o with
        | none => rw [hs] at h; cases h
        | some s1 => rw [hs] at h; exact ⟨s1, rfl, h⟩
      have hcase := Pu.rds_step HR.out hs1
      have HREST := Lib.hid hrest
      have HFo := Lib.hid (show Fits [o] from fun p hp => HFt.out p (by simp at hp; subst hp; exact List.mem_of_getElem? ho))
      clear ho q1 q2 q3 hdr hs1 hrest
      have hb2 := balloc (balloc hbel (Obj.cells #[Value.int IntKind.i64 o.kind, Value.int IntKind.i64 o.n, Value.int IntKind.i64 o.c] 45)) (Obj.cells #[Value.int IntKind.i64 o.kind, Value.int IntKind.i64 o.n, Value.int IntKind.i64 o.c] 45)
      have hsl : Me.Sl ((wr.alloc (Obj.cells #[Value.int IntKind.i64 o.kind, Value.int IntKind.i64 o.n, Value.int IntKind.i64 o.c] 45)).alloc (Obj.cells #[Value.int IntKind.i64 o.kind, Value.int IntKind.i64 o.n, Value.int IntKind.i64 o.c] 45)) ((wr.alloc (Obj.cells #[Value.int IntKind.i64 o.kind, Value.int IntKind.i64 o.n, Value.int IntKind.i64 o.c] 45)).alloc (Obj.cells #[Value.int IntKind.i64 o.kind, Value.int IntKind.i64 o.n, Value.int IntKind.i64 o.c] 45)).heap.size (some ⟨wr.heap.size + 1, 0, none⟩) (opCells [o]) := by
        have h := Me.Sl.new (wr.alloc (Obj.cells #[Value.int IntKind.i64 o.kind, Value.int IntKind.i64 o.n, Value.int IntKind.i64 o.c] 45)) 45 #[Value.int IntKind.i64 o.kind, Value.int IntKind.i64 o.n, Value.int IntKind.i64 o.c] _ rfl (wr.heap.size + 1 + 1) (by simp)
        rw [World.size_alloc] at h
        rw [World.size_alloc, World.size_alloc]
        exact h
      go_wp2_with fail
      refine (of_any (some ⟨wr.heap.size + 1, 0, none⟩) 1 [o] _ (by simp) (by simp [maxLen]) (by simp) HFo.out hsl).mono ?_
      rintro e w1 ⟨hb3, hp⟩
      obtain ⟨XA, xn, XC, X, ok, rfl, HXX⟩ : ∃ XA xn XC X ok, e = .returned (.tuple #[.agg #[.slice XA xn XC, .int .i64 X], .bool ok]) ∧ Hid (∀ x, Pu.ofL .empty [o] = some x → X = (x.long : Int)) := by
        cases hx : Pu.ofL .empty [o] with
        | none =>
          rw [hx] at hp
          obtain ⟨XA, xn, XC, L, rfl⟩ := hp
          exact ⟨XA, xn, XC, L, false, rfl, Lib.hid (fun x h => by cases h)⟩
        | some x =>
          rw [hx] at hp
          obtain ⟨XA, XC, rfl, _⟩ := hp
          exact ⟨XA, _, XC, _, true, rfl, Lib.hid (fun y h => by injection h with h; rw [h])⟩
      have b45 := (((Me.Blk.new wr 45 #[Value.int IntKind.i64 o.kind, Value.int IntKind.i64 o.n, Value.int IntKind.i64 o.c]).alloc (Obj.cells #[Value.int IntKind.i64 o.kind, Value.int IntKind.i64 o.n, Value.int IntKind.i64 o.c] 45)).below hb3 (by simp; omega)).alloc (Obj.cells #[.slice XA xn XC, .int .i64 X] 30)
      have b30 := Me.Blk.new w1 30 #[.slice XA xn XC, .int .i64 X]
      have hb5 := balloc (bstep hb2 hb3) (Obj.cells #[.slice XA xn XC, .int .i64 X] 30)
      have hw12 : Below wr.heap.size wr (w1.alloc (Obj.cells #[.slice XA xn XC, .int .i64 X] 30)) := balloc (bstep (balloc (bnew wr (Obj.cells #[Value.int IntKind.i64 o.kind, Value.int IntKind.i64 o.n, Value.int IntKind.i64 o.c] 45)) (Obj.cells #[Value.int IntKind.i64 o.kind, Value.int IntKind.i64 o.n, Value.int IntKind.i64 o.c] 45)) hb3) _
      have hbits2 := BitsAt.later hbits hw12
      have hown2 := Me.own_below hown hw12 (Nat.le_refl _)
      clear hp hb3 hw12 hbits hown hb2 hsl k1 k2 k3
      have hstep2 : 0 ≤ o.n ∧ o.n ≤ 1152921504606846976 ∧ s.long ≤ 1152921504606846976 := by
        rcases hcase with ⟨N, _, h1, h2, h3, _⟩ | ⟨N, _, h1, h2, h3, _⟩ | ⟨N, C, _, h1, _, h2, h3, h4, _⟩
        · omega
        · omega
        · have := HR.out.max
          omega
      obtain ⟨hz1, hz2, hsm⟩ := hstep2
      have htm : t.long ≤ 1152921504606846976 := by have := HT.out; omega
      have HC := Lib.hid hcase
      clear hcase
      go_upto_region 7 with (fail)
      generalize w1.alloc (Obj.cells #[Value.slice XA xn XC, Value.int IntKind.i64 X] 30) = w2 at b45 b30 hb5 hbits2 hown2 ⊢
      have d0 : w2.cell? ⟨wr.heap.size, 0, none⟩ = some (.int .i64 o.kind) := b45.cell 0
      have d1 : w2.cell? ⟨wr.heap.size, 1, none⟩ = some (.int .i64 o.n) := b45.cell 1
      have d2 : w2.cell? ⟨wr.heap.size, 2, none⟩ = some (.int .i64 o.c) := b45.cell 2
      have x1 : w2.cell? ⟨w1.heap.size, 1, none⟩ = some (.int .i64 X) := b30.cell 1
      have hlt6 := b45.lt
      have hlt7 := b30.lt
      obtain ⟨PA, PC, hbk, hpv⟩ := hbits2.shape
      have e1 : w2.cell? ⟨w.heap.size, 1, none⟩ = some (.int .i64 (t.long : Int)) := hbk.cell 1
      have hltg := hbk.lt
      go_upto_block 2 with (fail)
      have hbase2 : w.heap.size + 1 ≤ w2.heap.size := hltg
      have hbw : w.heap.size ≤ w2.heap.size := by omega
      generalize hz : o.n - (t.long : Int) = z
      have HZ := Lib.hid hz
      clear hz
      go_cut [3] (fun s3 wx => Cut3 w w2 out n s o s3 wx)
      case first =>
        by_cases hk2 : o.kind = 2
        · obtain ⟨N, C, hnN, hcC, hN1, hN2, hC2⟩ : ∃ N C : Nat, o.n = N ∧ o.c = C ∧ 1 ≤ N ∧ N ≤ 1152921504606846976 ∧ C ≤ 1152921504606846976 := by
            rcases HC.out with ⟨N, h0, _⟩ | ⟨N, h0, _⟩ | ⟨N, C, _, h1, h2, h3, h4, h5, h6, _⟩
            · omega
            · omega
            · exact ⟨N, C, h1, h2, h3, by omega, h6⟩
          have hk2' : (o.kind == 2) = true := beq_iff_eq.2 hk2
          have HCF : Hid (CodeFor s.long o (Pu.codeOf N ++ Pu.enc C)) := ⟨fun _ => by rw [hnN, hcC]; simp, fun h => absurd hk2 h⟩
          have d1N : w2.cell? ⟨wr.heap.size, 1, none⟩ = some (.int .i64 (N : Int)) := by rw [d1, hnN]
          have d2C : w2.cell? ⟨wr.heap.size, 2, none⟩ = some (.int .i64 (C : Int)) := by rw [d2, hcC]
          have hcl := Pu.codeOf_len10 hN2
          have hel := Pu.enc_len9 hC2
          have HCE := Lib.hid (fun x hx => Pu.enc_lt C x hx)
          have HCN := Lib.hid (fun x hx => Pu.codeOf_lt (n := N) x hx)
          have HNN := Lib.hid hnN
          have HCC := Lib.hid hcC
          clear hnN hcC hk2 d1 d2
          go_upto_if 33 with (fail)
          go_cut [3] (fun s3 wx => ∃ (A3 : Option Addr) (c3 n3 : Nat), s3 = .slice A3 n3 c3 ∧ n3 ≤ n + 10 ∧ Hid ((out ++ Pu.codeOf N).length = n3) ∧ wx.ownsRow (w.heap.size + 1) 5 1 (.slice A3 n3 c3) n3 ((out ++ Pu.codeOf N).map Me.b8) ∧ Me.Fr w.heap.size M5 w2 wx)
          case first =>
            by_cases hlt : N < 128
            · have HE := Lib.hid (show bits BinOp.or IntKind.u8 128 (N : Int) = ((128 + N : Nat) : Int) by
                have h := Bi.code_byte N hlt
                rw [show (N : Int) % 256 = (N : Int) from by omega] at h
                exact h)
              have HC1 := Lib.hid (show Pu.codeOf N = [128 + N] by unfold Pu.codeOf; rw [if_pos hlt])
              have hjb : (n + 1) * 1 ≤ 140737488355328 := by omega
              go_wp2_with (at_builtin; refine Me.wpList_appv el5 rfl hown2 _ _ rfl rfl rfl rfl (Me.ones1 rfl) hjb hbase2 ?_; intro A3 c3 w3 hc3 hcm3 hown3 hg3)
              go_meet
              refine ⟨A3, c3, n + 1, rfl, by omega, ?_, ?_, Me.Fr.refl.grown hown2 hg3 (by omega) hbw (fun _ => rfl)⟩
              · rw [HC1.out]; show (out ++ [128 + N]).length = n + 1; simp [HN.out]
              · rw [HC1.out, List.map_append]
                rw [HE.out] at hown3
                exact hown3
            · have HC1 := Lib.hid (show Pu.codeOf N = 128 :: Pu.enc N by unfold Pu.codeOf; rw [if_neg hlt])
              have hjb : (n + 1) * 1 ≤ 140737488355328 := by omega
              have hjb2 : (n + 1 + (Pu.enc N).length) * 1 ≤ 140737488355328 := by have := Pu.enc_len9 hN2; omega
              have hl4 : ((Pu.enc N).map Me.b8).length = (Pu.enc N).length * 1 := by simp
              have h14 : ∀ u ∈ (Pu.enc N).map Me.b8, u.oneCell' = true := fun u hu => by simp at hu; obtain ⟨_, _, rfl⟩ := hu; rfl
              have hel9 := Pu.enc_len9 hN2
              have hNv : N < 4611686018427387904 := by omega
              have HB45 := Lib.hid b45
              clear b45
              go_wp2_with fail
              go_region_law (first
                | (refine Me.step_app_drew el5 rfl hown2 _ _ rfl rfl rfl rfl (Me.ones1 rfl) hjb hbase2 ?_; intro A3 c3 w3 hc3 hcm3 hown3 hg3; have hf3 : Me.Fr w.heap.size M5 w2 w3 := Me.Fr.refl.grown hown2 hg3 (by omega) hbw (fun _ => rfl); have z1 : w3.cell? ⟨wr.heap.size, 1, none⟩ = some (.int .i64 (N : Int)) := ((HB45.out.fr hf3 (m5 (by decide))).cell 1).trans (by rw [← HNN.out]; rfl); have hlt63 : wr.heap.size < w3.heap.size := Nat.lt_of_lt_of_le hlt6 hf3.size)
                | (refine step_app_sl el5 rfl hown4 hS4 _ _ rfl rfl rfl hl4 h14 hjb2 hbase4 ?_; intro A5 c5 w5 hc5 hcm5 hown5 hg5)
                | (go_simp; go_at_call 18; refine (varint_sl N _ hNv).mono ?_; rintro e w4 ⟨g4, c4, rfl, hc4, hcm4, hg4, hg4', hS4, hb4⟩; have hown4 := Me.own_below hown3 hb4 (Nat.le_refl _); have hbase4 : w.heap.size + 1 ≤ w4.heap.size := by (have := hf3.size; have := hb4.size; omega)))
              all_goals
                go_wp2
                go_meet
                have hf4 : Me.Fr w.heap.size M5 w2 w4 := hf3.trans (Me.Fr.of_below hb4 (by have := hf3.size; omega))
                refine ⟨A5, c5, n + 1 + (Pu.enc N).length, rfl, by omega, ?_, ?_, hf4.grown hown4 hg5 (by omega) (by omega) (fun _ => rfl)⟩
                · rw [HC1.out]; show (out ++ (128 :: Pu.enc N)).length = _; simp [HN.out]; omega
                · have e : (out ++ Pu.codeOf N).map Me.b8 = out.map Me.b8 ++ [.int .u8 128] ++ (Pu.enc N).map Me.b8 := by rw [HC1.out]; simp [Me.b8]
                  rw [e]
                  exact hown5
          case rest =>
            obtain ⟨A3, c3, n3, rfl, hn3, HN3, hown3, hf3⟩ := hcut
            have z2 : wc.cell? ⟨wr.heap.size, 2, none⟩ = some (.int .i64 (C : Int)) := ((b45.fr hf3 (m5 (by decide))).cell 2).trans (by rw [← HCC.out]; rfl)
            have hlt6c : wr.heap.size < wc.heap.size := Nat.lt_of_lt_of_le hlt6 hf3.size
            have hjb2 : (n3 + (Pu.enc C).length) * 1 ≤ 140737488355328 := by omega
            have hl4 : ((Pu.enc C).map Me.b8).length = (Pu.enc C).length * 1 := by simp
            have h14 : ∀ u ∈ (Pu.enc C).map Me.b8, u.oneCell' = true := fun u hu => by simp at hu; obtain ⟨_, _, rfl⟩ := hu; rfl
            go_wp2_with fail
            refine (varint_sl C wc (by omega)).mono ?_
            rintro e w4 ⟨g4, c4, rfl, hc4, hcm4, hg4, hg4', hS4, hb4⟩
            have hown4 := Me.own_below hown3 hb4 (Nat.le_refl _)
            have hbase4 : w.heap.size + 1 ≤ w4.heap.size := by have := hf3.size; have := hb4.size; omega
            go_wp2_with (first
              | (at_builtin; refine Me.wpList_app_sl el5 rfl hown4 hS4 _ _ rfl rfl rfl hl4 h14 hjb2 hbase4 ?_; intro v5 w5 hown5 hg5 _; obtain ⟨A5, c5, rfl, hc5, hcm5⟩ := Me.own_shape hown5))
            go_meet
            have hf4 : Me.Fr w.heap.size M5 w2 w4 := hf3.trans (Me.Fr.of_below hb4 (by have := hf3.size; omega))
            refine ⟨A5, c5, n3 + (Pu.enc C).length, Pu.codeOf N ++ Pu.enc C, rfl, by omega, ?_, ?_, HCF, ?_, hf4.grown hown4 hg5 (by omega) (by omega) (fun _ => rfl)⟩
            · show (out ++ (Pu.codeOf N ++ Pu.enc C)).length = _
              rw [← List.append_assoc, List.length_append, HN3.out]
            · exact Lib.hid (fun x hx => (List.mem_append.1 hx).elim (HCN.out x) (HCE.out x))
            · rw [← List.append_assoc, List.map_append]
              exact hown5
        · have hk2' : (o.kind == 2) = false := beq_eq_false_iff_ne.2 hk2
          have hsn : (s.long : Int) ≤ o.n := by
            rcases HC.out with ⟨N, _, h1, h2, h3, _⟩ | ⟨N, _, h1, h2, h3, _⟩ | ⟨N, C, h0, _⟩
            · omega
            · omega
            · exact absurd h0 hk2
          obtain ⟨k, rfl⟩ : ∃ k : Nat, z = k := ⟨(o.n - t.long).toNat, by have := HT.out; have := HZ.out; omega⟩
          have hkk : (o.n - (s.long : Int)).toNat = k := by have := HT.out; have := HZ.out; omega
          have hkb : k ≤ 1152921504606846976 := by have := HZ.out; omega
          have HCF : Hid (CodeFor s.long o (Pu.zc k)) := ⟨fun h => absurd h hk2, fun _ => by rw [hkk]⟩
          clear hkk hk2
          by_cases h1 : k = 1
          · have h1' : ((k : Int) == 1) = true := by simp [h1]
            have hzc : Pu.zc k = [1, 0] := by rw [h1]; rfl
            rw [hzc] at HCF
            have hjb : (n + 2) * 1 ≤ 140737488355328 := by omega
            have H1 := Lib.hid h1
            clear h1 hzc
            go_wp2_with (at_builtin; refine Me.wpList_appv el5 rfl hown2 _ _ rfl rfl rfl rfl (Me.ones2 rfl rfl) hjb hbase2 ?_; intro A3 c3 w3 hc3 hcm3 hown3 hg3)
            go_meet
            exact ⟨A3, c3, n + 2, [1, 0], rfl, by omega, by show (out ++ [1, 0]).length = n + 2; simp [HN.out], Lib.hid (by decide), HCF, by rw [List.map_append]; exact hown3, Me.Fr.refl.grown hown2 hg3 (by omega) hbw (fun _ => rfl)⟩
          · have h1' : ((k : Int) == 1) = false := by rw [beq_eq_false_iff_ne]; omega
            by_cases h2 : 1 < k
            · have hzc : Pu.zc k = [1, 0, 129] ++ Pu.enc (k - 1) := by unfold Pu.zc; rw [if_neg h1, if_pos h2]
              rw [hzc] at HCF
              have hel := Pu.enc_len9 (n := k - 1) (by omega)
              have hjb : (n + 3) * 1 ≤ 140737488355328 := by omega
              have hjb2 : (n + 3 + (Pu.enc (k - 1)).length) * 1 ≤ 140737488355328 := by omega
              have hkv : k - 1 < 4611686018427387904 := by omega
              have HKM := Lib.hid (show (k : Int) - 1 = ((k - 1 : Nat) : Int) by omega)
              have HE := Lib.hid (fun x hx => Pu.enc_lt (k - 1) x hx)
              have hl4 : ((Pu.enc (k - 1)).map Me.b8).length = (Pu.enc (k - 1)).length * 1 := by simp
              have h14 : ∀ u ∈ (Pu.enc (k - 1)).map Me.b8, u.oneCell' = true := fun u hu => by simp at hu; obtain ⟨_, _, rfl⟩ := hu; rfl
              have HZC := Lib.hid hzc
              clear hzc h1
              go_wp2_with (first
                | (at_builtin; refine Me.wpList_appv el5 rfl hown2 _ _ rfl rfl rfl rfl (Me.ones3 rfl rfl rfl) hjb hbase2 ?_; intro A3 c3 w3 hc3 hcm3 hown3 hg3; have hf3 : Me.Fr w.heap.size M5 w2 w3 := Me.Fr.refl.grown hown2 hg3 (by omega) hbw (fun _ => rfl)))
              rw [HKM.out]
              refine (varint_sl (k - 1) w3 hkv).mono ?_
              rintro e w4 ⟨g4, c4, rfl, hc4, hcm4, hg4, hg4', hS4, hb4⟩
              have hown4 := Me.own_below hown3 hb4 (Nat.le_refl _)
              have hbase4 : w.heap.size + 1 ≤ w4.heap.size := by have := hf3.size; have := hb4.size; omega
              go_wp2_with (first
                | (at_builtin; refine Me.wpList_app_sl el5 rfl hown4 hS4 _ _ rfl rfl rfl hl4 h14 hjb2 hbase4 ?_; intro v5 w5 hown5 hg5 _; obtain ⟨A5, c5, rfl, hc5, hcm5⟩ := Me.own_shape hown5))
              go_meet
              have hf4 : Me.Fr w.heap.size M5 w2 w4 := hf3.trans (Me.Fr.of_below hb4 (by have := hf3.size; omega))
              refine ⟨A5, c5, n + 3 + (Pu.enc (k - 1)).length, [1, 0, 129] ++ Pu.enc (k - 1), rfl, by omega, ?_, ?_, HCF, ?_, hf4.grown hown4 hg5 (by omega) (by omega) (fun _ => rfl)⟩
              · show (out ++ ([1, 0, 129] ++ Pu.enc (k - 1))).length = _
                simp [HN.out]; omega
              · refine Lib.hid (fun x hx => ?_)
                rcases List.mem_append.1 hx with hx | hx
                · simp at hx; omega
                · exact HE.out x hx
              · have e : (out ++ ([1, 0, 129] ++ Pu.enc (k - 1))).map Me.b8 = out.map Me.b8 ++ [.int .u8 1, .int .u8 0, .int .u8 129] ++ (Pu.enc (k - 1)).map Me.b8 := by simp [Me.b8]
                rw [e]
                exact hown5
            · have hzc : Pu.zc k = [] := by unfold Pu.zc; rw [if_neg h1, if_neg h2]
              rw [hzc] at HCF
              go_wp2_with fail
              go_meet
              exact ⟨OA, OC, n, [], rfl, by omega, by show (out ++ []).length = n; simp [HN.out], Lib.hid (by decide), HCF, by rw [List.append_nil]; exact hown2, Me.Fr.refl⟩
      case rest =>
        obtain ⟨A3, C3, n2, code, rfl, hn2, HN2, HB2, HCF, hown3, hfr⟩ := hcut
        have b45c := b45.fr hfr (m5 (by decide))
        have b30c := b30.fr hfr (m5 (by decide))
        have hblkc := hbk.fr hfr (m5 (by decide))
        have hpvc := hpv.fr hfr (fun _ => m5 (by decide)) (fun _ => m5 (by decide))
        have hbelc : Below w.heap.size w wc := hb5.trans hfr.below
        have hbasec : w.heap.size + 1 ≤ wc.heap.size := Nat.le_trans hbase2 hfr.size
        have hlt6c : wr.heap.size < wc.heap.size := Nat.lt_of_lt_of_le hlt6 hfr.size
        have hlt7c : w1.heap.size < wc.heap.size := Nat.lt_of_lt_of_le hlt7 hfr.size
        clear b45 b30 hbk hpv hbits2 hown2 d0 d1 d2 x1 e1 hb5 hfr hbase2 hbw hltg hlt6 hlt7 HZ
        have d0 : wc.cell? ⟨wr.heap.size, 0, none⟩ = some (.int .i64 o.kind) := b45c.cell 0
        have hjb : (n2 + 2) * 1 ≤ 140737488355328 := by omega
        rcases HC.out with ⟨N, hk, hnN, h1, h2, h3, ⟨b', hR'⟩, x, hx, hxl⟩ | ⟨N, hk, hnN, h1, h2, h3, ⟨b', hR'⟩, x, hx, hxl⟩ | ⟨N, C, hk, hnN, hcC, h1, h2, h3, h4, h5, ⟨b', hR'⟩, hx⟩
        · have hk0 : (o.kind == 0) = true := by rw [hk]; rfl
          have hk2 : (o.kind == 2) = false := by rw [hk]; rfl
          have hX : X = ((N + 1 : Nat) : Int) := by rw [HXX.out x hx, hxl]
          have hcode : code = Pu.zc (N - s.long) := by
            rw [HCF.out.2 (by omega), hnN]
            congr 1; omega
          have HR' : Hid (Pu.Rds (out ++ code ++ [1, 1]) b' s1) := by rw [hcode]; exact hR'
          have H3 := Lib.hid h3
          clear hR' hcode hk hnN hx hxl h3 HC
          clear hjb
          have hjb : (n2 + 2) * 1 ≤ 140737488355328 := by omega
          subst hX
          have H45 := Lib.hid b45c
          have H30 := Lib.hid b30c
          have HBK := Lib.hid hblkc
          have HG45 := Lib.hid (Me.own_ne hown3 b45c (by decide))
          have HG30 := Lib.hid (Me.own_ne hown3 b30c (by decide))
          have HGBK := Lib.hid (Me.own_ne hown3 hblkc (by decide))
          clear b45c b30c hblkc
          go_wp2_with (at_builtin; refine Me.wpList_appv el5 rfl hown3 _ _ rfl rfl rfl rfl (Me.ones2 rfl rfl) hjb hbasec ?_; intro A4 C4 w4 hc4 hcm4 hown4 hg4; have z0 : w4.cell? ⟨wr.heap.size, 0, none⟩ = some (.int .i64 o.kind) := (H45.out.grown hg4 HG45.out).cell 0; have x1 : w4.cell? ⟨w1.heap.size, 1, none⟩ = some (.int .i64 ((N + 1 : Nat) : Int)) := (H30.out.grown hg4 HG30.out).cell 1; have e1 : w4.cell? ⟨w.heap.size, 1, none⟩ = some (.int .i64 (t.long : Int)) := (HBK.out.grown hg4 HGBK.out).cell 1; have fz := (HBK.out.grown hg4 HGBK.out).frozen 1; have hlt64 : wr.heap.size < w4.heap.size := Nat.lt_of_lt_of_le hlt6c hg4.size; have hlt74 : w1.heap.size < w4.heap.size := Nat.lt_of_lt_of_le hlt7c hg4.size; have hlt84 : w.heap.size + 1 ≤ w4.heap.size := Nat.le_trans hbasec hg4.size)
          go_roundw
          case rel =>
            have hf4 : Me.Fr w.heap.size M5 wc w4 := Me.Fr.refl.grown hown3 hg4 (by omega) (by omega) (fun _ => rfl)
            have B4 := HBK.out.fr hf4 (m5 (by decide))
            have P4 := hpvc.fr hf4 (fun _ => m5 (by decide)) (fun _ => m5 (by decide))
            refine ⟨j + 1, n2 + 2, out ++ code ++ [1, 1], b', s1, ⟨t.parts, N + 1⟩, A4, C4, by go_num, rfl, by omega, by omega, ?_, ?_, HR', HREST, Lib.hid H3.out.symm, by show t.parts.length ≤ j + 1; omega, ⟨.slice PA t.parts.length PC, B4.set_ 1 _, P4.far B4 (by decide) (by decide) 1 _⟩, ?_, (hbelc.trans hf4.below).setCell (Nat.le_refl _) _⟩
            · exact Lib.hid (by rw [List.length_append, HN2.out]; rfl)
            · refine Lib.hid (fun x hx => ?_)
              rcases List.mem_append.1 hx with hx | hx
              · exact (List.mem_append.1 hx).elim (HB.out x) (HB2.out x)
              · simp at hx; omega
            · rw [List.map_append]
              exact Me.own_far hown4 B4 (by decide) 1 _
          case measure => simp [intOf]; omega
        · have hk0 : (o.kind == 0) = false := by rw [hk]; rfl
          have hk2 : (o.kind == 2) = false := by rw [hk]; rfl
          have hX : X = ((N : Nat) : Int) := by rw [HXX.out x hx, hxl]
          have hcode : code = Pu.zc (N - s.long) := by
            rw [HCF.out.2 (by omega), hnN]
            congr 1; omega
          have HR' : Hid (Pu.Rds (out ++ code) b' s1) := by rw [hcode]; exact hR'
          have H3 := Lib.hid h3
          have x1 : wc.cell? ⟨w1.heap.size, 1, none⟩ = some (.int .i64 X) := b30c.cell 1
          have fz := hblkc.frozen 1
          have e1 : wc.cell? ⟨w.heap.size, 1, none⟩ = some (.int .i64 (t.long : Int)) := hblkc.cell 1
          have HBK := Lib.hid hblkc
          clear hR' hcode hk hnN hx hxl h3 HC hblkc b45c b30c
          subst hX
          go_wp2
          go_roundw
          case rel =>
            refine ⟨j + 1, n2, out ++ code, b', s1, ⟨t.parts, N⟩, A3, C3, by go_num, rfl, by omega, by omega, HN2, ?_, HR', HREST, Lib.hid H3.out.symm, by show t.parts.length ≤ j + 1; omega, ⟨.slice PA t.parts.length PC, HBK.out.set_ 1 _, hpvc.far HBK.out (by decide) (by decide) 1 _⟩, ?_, hbelc.setCell (Nat.le_refl _) _⟩
            · exact Lib.hid (fun x hx => (List.mem_append.1 hx).elim (HB.out x) (HB2.out x))
            · exact Me.own_far hown3 HBK.out (by decide) 1 _
          case measure => simp [intOf]; omega
        · have hk0 : (o.kind == 0) = false := by rw [hk]; rfl
          have hk2 : (o.kind == 2) = true := by rw [hk]; rfl
          have hcode : code = Pu.codeOf N ++ Pu.enc C := by rw [HCF.out.1 hk, hnN, hcC]; simp
          have HR' : Hid (Pu.Rds (out ++ code) b' s1) := by rw [hcode, ← List.append_assoc]; exact hR'
          obtain ⟨t', ht'⟩ := Pu.again_some (b := t) (n := N) (c := C) h1 (by have := HT.out; omega) (by have := HT.out; omega)
          have htl := (Pu.again_long ht').1
          have htp := (Pu.again_bd ht').2
          have HT2 : Hid (t'.long = s1.long) := Lib.hid (by rw [htl, HT.out, h5])
          have hN9 : N ≤ 1152921504606846976 := by omega
          have d1 : wc.cell? ⟨wr.heap.size, 1, none⟩ = some (.int .i64 (N : Int)) := (b45c.cell 1).trans (by rw [← hnN]; rfl)
          have d2 : wc.cell? ⟨wr.heap.size, 2, none⟩ = some (.int .i64 (C : Int)) := (b45c.cell 2).trans (by rw [← hcC]; rfl)
          have hbitsc : Me.BitsAt wc w.heap.size w.heap.size t := ⟨_, hblkc, hpvc⟩
          have HBK := Lib.hid hblkc
          have HA := Lib.hid ht'
          clear hR' hcode hk hnN hcC hx h3 h5 HC htl ht' hblkc hpvc b45c b30c
          go_wp2_with fail
          refine (again_any w.heap.size w.heap.size t (N : Int) (C : Int) wc (Nat.le_refl _) hbitsc htm (by omega) (by omega) (by omega) (by omega) (by omega)).mono ?_
          rintro e w4 ⟨hf4, hm⟩
          rw [HA.out] at hm
          obtain ⟨rfl, hb4⟩ := hm
          have hown4 := own_add hf4 HBK.out hown3
          have hbel4 := hbelc.trans hf4.below
          clear hf4
          go_wp2
          go_roundw
          case rel =>
            exact ⟨j + 1, n2, out ++ code, b', s1, t', A3, C3, by go_num, rfl, by omega, by omega, HN2, Lib.hid (fun x hx => (List.mem_append.1 hx).elim (HB.out x) (HB2.out x)), HR', HREST, HT2, by omega, hb4, hown4, hbel4⟩
          case measure => simp [intOf]; omega
    · have hjl : j = l.length := by omega
      subst hjl
      have hdrop := HO.out
      rw [List.drop_length] at hdrop
      simp only [Pu.ofL, Option.some.injEq] at hdrop
      subst hdrop
      have hjb : (n + 1) * 1 ≤ 140737488355328 := by omega
      have hbase : w.heap.size + 1 ≤ wr.heap.size := by obtain ⟨_, hblk, _⟩ := hbits; exact hblk.lt
      go_wp2_with (at_builtin; refine Me.wpList_appv el5 rfl hown _ _ rfl rfl rfl rfl (Me.ones1 rfl) hjb hbase ?_; intro A2 c2 w3 hc2 hcm2 hown3 hg3)
      go_ret
      refine ⟨out, b, A2, c2, ?_, HR.out, HB.out, ?_, ?_, hcm2, ?_, hbel.grown hg3 hbel.size (fun k hk => by have := (hown.lt k hk).1; omega)⟩
      · rw [List.length_append, HN.out]; rfl
      · rw [HN.out]; exact hn
      · rw [List.length_append, HN.out]; exact hc2
      · rw [List.map_append]
        exact Me.Sl.of_ownN hown3
end Go.Proofs.Ytnkkpdpjkfjmnaa
