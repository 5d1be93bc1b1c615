/-
  The contracts of gcprog.Varint and impl.Varint, and of spec.Varint with its slice written out.
-/
import Derived.Test.YtnkkpdpjkfjmnaaWReadv
namespace Go.Proofs.Ytnkkpdpjkfjmnaa
open Go.RowKit
set_option linter.unusedVariables false

theorem varint_sl (n : Nat) (w : World) (hn : n < 4611686018427387904) :
    Calls Try.prog 18 #[.int .i64 n] w fun e w' => ∃ g c, e = .returned (.slice (some ⟨g, 0, none⟩) (Pu.enc n).length c) ∧ (Pu.enc n).length ≤ c ∧ c ≤ maxLen ∧ w.heap.size ≤ g ∧ g < w'.heap.size ∧
      Me.Sl w' w'.heap.size (some ⟨g, 0, none⟩) ((Pu.enc n).map Me.b8) ∧ Below w.heap.size w w' := by
  refine (varint_any n w hn).mono fun e w' ⟨v, he, hown, hbel⟩ => ?_
  rcases hown.2 with ⟨_, h0⟩ | ⟨g, cap, cur, hv, hg, hh, h1, h2, _⟩
  · exact absurd (List.eq_nil_of_length_eq_zero h0) (Pu.enc_ne n)
  · subst hv
    exact ⟨g, cap, he, h1, h2, hg, (Array.getElem?_eq_some_iff.1 hh).1, Me.Sl.of_own hown, hbel⟩

theorem gvarint_any (bs : List Nat) (A : Option Addr) (c n : Nat) (rest : List Nat) (B : Nat) (w : World) (hc : bs.length ≤ c) (hcm : c ≤ maxLen) (h8 : ∀ x ∈ bs, x < 256) (hS : Me.Sl w B A (bs.map Me.b8)) (hd : Pu.dec bs = some (n, rest)) (hr : rest.length ≤ bs.length) :
    Calls Try.prog 29 #[.slice A bs.length c] w fun e w' => e = .returned (.tuple #[.int .i64 n, .int .i64 ((bs.length - rest.length : Nat) : Int)]) ∧ w = w' := by
  have HD := Lib.hid hd
  clear hd
  unfold maxLen at hcm
  go_enter Try.func29, Try.ntmps29
  go_wp2_with (go_at_call 36; refine (readvarint_any bs A c n rest B _ hc hcm h8 hS HD.out).mono ?_; rintro e w' ⟨⟨A', c', rfl, h1, h2, h3⟩, rfl⟩)
  go_ret2
  exact ⟨ret_two rfl (int_eq (by omega)), rfl⟩

theorem ivarint_any (bs : List Nat) (A : Option Addr) (c n : Nat) (rest : List Nat) (B : Nat) (w : World) (hc : bs.length ≤ c) (hcm : c ≤ maxLen) (h8 : ∀ x ∈ bs, x < 256) (hS : Me.Sl w B A (bs.map Me.b8)) (hd : Pu.dec bs = some (n, rest)) (hr : rest.length ≤ bs.length) :
    Calls Try.prog 19 #[.slice A bs.length c] w fun e w' => e = .returned (.tuple #[.int .i64 n, .int .i64 ((bs.length - rest.length : Nat) : Int)]) ∧ w = w' := by
  have HD := Lib.hid hd
  clear hd
  go_enter Try.func19, Try.ntmps19
  go_wp2_with (go_at_call 29; refine (gvarint_any bs A c n rest B _ hc hcm h8 hS HD.out hr).mono ?_; rintro e w' ⟨rfl, rfl⟩)
  go_ret2
  exact ⟨rfl, rfl⟩

theorem ivarint_at (bs : List Nat) (A : Option Addr) (c n L k : Nat) (rest : List Nat) (B : Nat) (w : World) (hL : bs.length = L) (hk : L = k + rest.length) (hc : L ≤ c) (hcm : c ≤ maxLen) (h8 : ∀ x ∈ bs, x < 256) (hS : Me.Sl w B A (bs.map Me.b8)) (hd : Pu.dec bs = some (n, rest)) :
    Calls Try.prog 19 #[.slice A L c] w fun e w' => e = .returned (.tuple #[.int .i64 n, .int .i64 k]) ∧ w = w' := by
  subst hL
  refine (ivarint_any bs A c n rest B w hc hcm h8 hS hd (by omega)).mono fun e w' ⟨he, hw⟩ => ⟨?_, hw⟩
  rw [he, show bs.length - rest.length = k from by omega]
end Go.Proofs.Ytnkkpdpjkfjmnaa
