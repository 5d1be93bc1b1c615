/-
  The contracts of the closure that keeps the bytes, and of Writer.byte.
-/
import Derived.Test.YtnkkpdpjkfjmnaaWVarint
import Derived.Test.YtnkkpdpjkfjmnaaBMem
import Derived.Test.YtnkkpdpjkfjmnaaWri
namespace Go.Proofs.Ytnkkpdpjkfjmnaa
open Go.RowKit
set_option linter.unusedVariables false

/-- what the closure may change -/
def OutM (g : Nat) (k : Nat) (t : TypeId) : Prop := k = g ∨ t = 5

set_option maxHeartbeats 400000 in
theorem keep_any (go B n : Nat) (v : Value) (xs : List Value) (x : Nat) (w : World) (hB : B ≤ go) (hblk : Me.Blk w go 22 #[v]) (hown : w.ownsRow B 5 1 v n xs) (hn : n < 70368744177664) :
    Calls Try.prog 39 #[.int .u8 x, .pointer (some ⟨go, 0, none⟩)] w fun e w' => e = .returned (.tuple #[]) ∧ ∃ v', Me.Blk w' go 22 #[v'] ∧ w'.ownsRow B 5 1 v' (n + 1) (xs ++ [.int .u8 x]) ∧ Me.Fr B (OutM go) w w' := by
  have hg := hblk.lt
  have c0 : w.cell? ⟨go, 0, none⟩ = some v := hblk.cell 0
  have HN := Lib.hid (Me.own_ne hown hblk (by decide))
  have HB := Lib.hid hblk
  clear hblk
  go_enter Try.func39, Try.ntmps39
  go_wp2_with (at_builtin; go_must (refine Me.wpList_appv el5 rfl hown _ _ rfl rfl rfl rfl (Me.ones1 rfl) (by omega) (by omega) ?_); intro A2 c2 w1 hc2 hcm2 hown1 hg1; have e0 : w1.cell? ⟨go, 0, none⟩ = some v := (HB.out.grown hg1 HN.out).cell 0; have k0 := (HB.out.grown hg1 HN.out).frozen 0)
  go_end0
  have hb1 := HB.out.grown hg1 HN.out
  refine ⟨rfl, _, hb1.set_ 0 _, Me.own_far hown1 hb1 (by decide) 0 _, ?_⟩
  exact ((Me.Fr.refl).grown hown hg1 (Nat.le_refl _) (by omega) (fun k => .inr rfl)).setCell _ hB (.inl fun t => .inl rfl)

/-- the bytes that the closure keeps -/
def OutAt (w : World) (go B : Nat) (out : List Nat) : Prop := ∃ v, Me.Blk w go 22 #[v] ∧ w.ownsRow B 5 1 v out.length (out.map Me.b8)

theorem OutAt.far {w : World} {go B g : Nat} {out : List Nat} {t : TypeId} {cs : Array Value} (h : OutAt w go B out) (hg : Me.Blk w g t cs) (h1 : t ≠ 22) (h2 : t ≠ 5) (i : Nat) (u : Value) : OutAt (w.setCell ⟨g, i, none⟩ u) go B out := by
  obtain ⟨v, hb, ho⟩ := h
  refine ⟨v, hb.far (fun e => ?_) u, Me.own_far ho hg (Ne.symm h2) i u⟩
  have e' : go = g := e
  subst e'
  unfold Me.Blk at hb hg
  rw [hb] at hg
  injection hg with hg
  injection hg with _ ht
  exact h1 ht.symm
theorem OutAt.below {w w' : World} {go B : Nat} {out : List Nat} (h : OutAt w go B out) (hb : Below w.heap.size w w') : OutAt w' go B out := by
  obtain ⟨v, h1, h2⟩ := h
  exact ⟨v, h1.below hb h1.lt, Me.own_below h2 hb (Nat.le_refl _)⟩

/-- the function value that writes a byte -/
def keeper (go : Nat) : Value := .func (Fn.func 39) #[] #[.pointer (some ⟨go, 0, none⟩)]

set_option maxHeartbeats 400000 in
theorem byte_any (gw go B : Nat) (cs : Array Value) (out : List Nat) (x : Nat) (w : World) (hBo : B ≤ go) (hblk : Me.Blk w gw 70 cs) (h0 : cs[0]? = some (keeper go)) (hout : OutAt w go B out) (hn : out.length < 70368744177664) :
    Calls Try.prog 46 #[.pointer (some ⟨gw, 0, none⟩), .int .u8 x] w fun e w' => e = .returned (.tuple #[]) ∧ Me.Blk w' gw 70 cs ∧ OutAt w' go B (out ++ [x]) ∧ Below B w w' := by
  obtain ⟨v, hgo, hown⟩ := hout
  have c0 : w.cell? ⟨gw, 0, none⟩ = some (.func (Fn.func 39) #[] #[.pointer (some ⟨go, 0, none⟩)]) := (hblk.cell 0).trans h0
  have HB := Lib.hid hblk
  have hne : gw ≠ go := fun e => by
    subst e
    unfold Me.Blk at hblk hgo
    rw [hblk] at hgo
    injection hgo with hgo
    injection hgo with _ ht
    exact absurd ht (by decide)
  clear h0 hblk
  go_enter Try.func46, Try.ntmps46
  go_wp2_with (go_at_call 39; refine (keep_any go B out.length v _ x w hBo hgo hown hn).mono ?_; rintro e w1 ⟨rfl, v1, hb1, hown1, hf⟩)
  go_end0
  refine ⟨rfl, HB.out.fr hf ?_, ⟨v1, hb1, by simpa [Me.b8] using hown1⟩, hf.below⟩
  rintro (h | h)
  · exact hne h
  · exact absurd h (by decide)
end Go.Proofs.Ytnkkpdpjkfjmnaa
