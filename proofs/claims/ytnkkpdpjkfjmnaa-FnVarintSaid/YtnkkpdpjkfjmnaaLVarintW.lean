/-
  The walk of the law FnVarint.
-/
import Derived.Test.YtnkkpdpjkfjmnaaRows
import Derived.WalkKit
import Derived.ProofKit
import Derived.OpenShut
import Derived.ShutString
import Derived.ChangeOld
import Derived.Below
import Derived.Test.YtnkkpdpjkfjmnaaVar
import Derived.Test.YtnkkpdpjkfjmnaaAppFull
namespace Go.Proofs.Ytnkkpdpjkfjmnaa.fnVarint
open Go.ChangeShapes Go.WideShapes Go.ChangeAt Go.RowKit
open Go.ChangeMaps (open_string shut_string)
set_option linter.unusedVariables false

open Go.Proofs.Ytnkkpdpjkfjmnaa.Me (IsRow)

set_option maxHeartbeats 400000 in
theorem walk (a0 : Int) (a1 : Option Addr) (len1 cap1 : Nat) (z1 : List Int) (w : World) (w0 : (Lit.int .i64 a0).wf = true) (w1 : IsRow .u8 w a1 len1 cap1 z1) :
    Calls Try.prog 3 #[.int .i64 a0, .slice a1 len1 cap1] w fun e w' => e = .returned (.bool true) ∧ Below w.heap.size w w' := by
  obtain ⟨hl, hm⟩ := w1.le
  obtain ⟨ha1, ha2⟩ := Me.wf_i64 w0
  obtain ⟨bs, hbl, hS, h8⟩ := w1.bytes
  have HB := Lib.hid hbl
  clear hbl w1 w0
  unfold maxLen at hm
  by_cases hbig : 2147483647 < len1
  · go_enter Try.func3, Try.ntmps3
    go_wp2
    go_ret
    exact ⟨rfl, Below.refl _ _⟩
  · have hp := Pu.plcN_lt a0 4611686018427387904 (by omega)
    have hpn : Pu.plcN a0 4611686018427387904 < 4611686018427387904 := by omega
    clear hp
    have hel := Pu.enc_len 8 _ (by simpa using (by omega : Pu.plcN a0 4611686018427387904 < 9223372036854775808))
    have hel0 : 0 < (Pu.enc (Pu.plcN a0 4611686018427387904)).length := List.length_pos_iff.2 (Pu.enc_ne _)
    go_enter Try.func3, Try.ntmps3
    go_wp2_with (go_at_call 17; refine (place_nat a0 _ _ ha1 ha2 (by omega) (by omega)).mono ?_; rintro e w' ⟨rfl, rfl⟩)
    generalize Pu.plcN a0 4611686018427387904 = m at hpn hel hel0 ⊢
    refine (varint_sl m w hpn).mono ?_
    rintro e w2 ⟨g, c, rfl, hc1, hc2, hg1, hg2, hS2, hb2⟩
    have hS3 := hS.below hb2 (Nat.le_refl _)
    have hne : ((Pu.enc m).length == 0) = false := beq_eq_false_iff_ne.2 (by omega)
    unfold maxLen at hc2
    go_wp2_with (at_builtin; go_must (refine Me.wpList_app_full el5 rfl (by simp) hS2 (Nat.le_refl _) hS3 _ _ rfl rfl rfl (by simpa using HB.out) (fun u hu => by simp at hu; obtain ⟨_, _, rfl⟩ := hu; rfl) (by omega) ?_); intro A3 c3 w3 hc3 hc4 hS4 hb4)
    refine (ivarint_at (Pu.enc m ++ bs) A3 c3 m _ (Pu.enc m).length bs w3.heap.size w3 (by simp [HB.out]) (by rw [HB.out]) hc3 hc4 ?_ (by simpa using hS4) (Pu.dec_enc m bs hpn)).mono ?_
    · intro x hx
      rcases List.mem_append.1 hx with hx | hx
      · exact Pu.enc_lt m x hx
      · exact h8 x hx
    rintro e w4 ⟨rfl, rfl⟩
    go_wp2
    go_ret
    exact ⟨rfl, hb2.trans (hb4.mono hb2.size)⟩

end Go.Proofs.Ytnkkpdpjkfjmnaa.fnVarint
