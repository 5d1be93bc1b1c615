/-
  The contract of spec.Varint: new bytes, the encoding.
-/
import Derived.Test.YtnkkpdpjkfjmnaaWPlace
import Derived.Test.YtnkkpdpjkfjmnaaApp
import Derived.Test.YtnkkpdpjkfjmnaaBit
import Derived.WalkSpells
namespace Go.Proofs.Ytnkkpdpjkfjmnaa
open Go.RowKit
set_option linter.unusedVariables false

theorem el5 : Me.Elem Try.prog 22 5 1 1 (.int .u8 0) := ⟨Try.underlying22, by kernel_rfl, rfl, by omega, by omega⟩

set_option maxHeartbeats 400000 in
theorem varint_any (n : Nat) (w : World) (hn : n < 4611686018427387904) :
    Calls Try.prog 18 #[.int .i64 n] w fun e w' => ∃ v, e = .returned v ∧ w'.ownsRow w.heap.size 5 1 v (Pu.enc n).length ((Pu.enc n).map Me.b8) ∧ Below w.heap.size w w' := by
  have hlen : (Pu.enc n).length ≤ 9 := Pu.enc_len 8 n (by simpa using (by omega : n < 9223372036854775808))
  go_enter Try.func18, Try.ntmps18
  go_wp2
  go_loopw [0, 3] (fun x v wr => ∃ (m : Nat) (xs : List Nat), x = .int .i64 m ∧ m ≤ n ∧ wr.ownsRow w.heap.size 5 1 v xs.length (xs.map Me.b8) ∧ Below w.heap.size w wr ∧ Hid (xs ++ Pu.enc m = Pu.enc n))
    (fun x _ _ => (intOf x).toNat)
  case atStart => exact ⟨n, [], rfl, Nat.le_refl _, World.ownsRow_nil _ _ _ _, Below.refl _ _, rfl⟩
  case round =>
    obtain ⟨m, xs, rfl, hm, hown, hbel, HE⟩ := hrel
    have hxl : xs.length ≤ 9 := by have h := congrArg List.length HE.out; simp at h; omega
    by_cases hlt : 127 < m
    · go_wp2_with (at_builtin; go_must (refine Me.wpList_app el5 rfl hown _ _ rfl rfl rfl rfl (Me.ones1 rfl) (by omega) hbel.size ?_); intro v' w1 hown1 hg1 _)
      go_roundw
      case rel =>
        rw [Bi.enc_byte m (by omega)] at hown1
        refine ⟨m / 128, xs ++ [m % 128 + 128], by go_num, by omega, by simpa [Me.b8] using hown1, hbel.grown hg1 hbel.size (fun k hk => (hown.lt k hk).1), ?_⟩
        have h := HE.out
        rw [Pu.enc_big hlt] at h
        unfold Hid
        rw [← h]
        simp
      case measure => simp [intOf]; omega
    · go_wp2_with (at_builtin; go_must (refine Me.wpList_app el5 rfl hown _ _ rfl rfl rfl rfl (Me.ones1 rfl) (by omega) hbel.size ?_); intro v' w1 hown1 hg1 _)
      go_ret
      have h := HE.out
      rw [Pu.enc_small hlt] at h
      refine ⟨v', rfl, ?_, hbel.grown hg1 hbel.size (fun k hk => (hown.lt k hk).1)⟩
      rw [← h]
      simpa [Me.b8] using hown1
end Go.Proofs.Ytnkkpdpjkfjmnaa
