/-
  Words for memory: a slice that reads as a list of cells. No program here.
-/
import Derived.WalkKit
import Derived.OwnWalk
import Derived.Deep.Draws
import Derived.Lib.Hide
namespace Go.Proofs.Ytnkkpdpjkfjmnaa.Me
open Go.RowKit
set_option linter.unusedVariables false

theorem below_drewN {B : Nat} {a w : World} (h : Below B a w) (n : Nat) : Below B a (w.drewN n) := ⟨h.os, h.tape, h.output, h.size, h.block⟩

/-- a byte as a value -/
def b8 (n : Nat) : Value := .int .u8 (n : Int)

/-- the slice that begins at A reads as xs (one cell each), in a block below B -/
def Sl (w : World) (B : Nat) (A : Option Addr) (xs : List Value) : Prop :=
  xs = [] ∨ ∃ b off, A = some ⟨b, off, none⟩ ∧ b < B ∧ ∀ j u, xs[j]? = some u → w.cell? ⟨b, off + j, none⟩ = some u

section
variable {w w' : World} {B B' : Nat} {A : Option Addr} {xs : List Value}
theorem Sl.nil : Sl w B A [] := .inl rfl
theorem Sl.keep (h : Sl w B A xs) (hk : ∀ b off, b < B → w'.cell? ⟨b, off, none⟩ = w.cell? ⟨b, off, none⟩) : Sl w' B A xs := by
  rcases h with h | ⟨b, off, e, hb, hc⟩
  · exact .inl h
  · exact .inr ⟨b, off, e, hb, fun j u hu => (hk _ _ hb).trans (hc j u hu)⟩
theorem Sl.more (h : Sl w B A xs) (hB : B ≤ B') : Sl w B' A xs := by
  rcases h with h | ⟨b, off, e, hb, hc⟩
  · exact .inl h
  · exact .inr ⟨b, off, e, by omega, hc⟩
theorem Sl.below (h : Sl w B A xs) (hb : Below B' w w') (hB : B ≤ B') : Sl w' B A xs := h.keep fun b off hlt => hb.cell (p := ⟨b, off, none⟩) (by show b < B'; omega)
theorem Sl.drew (h : Sl w B A xs) : Sl w.drew B A xs := h
theorem Sl.drewN (h : Sl w B A xs) (k : Nat) : Sl (w.drewN k) B A xs := h
theorem Sl.alloc (h : Sl w B A xs) (hB : B ≤ w.heap.size) (o : Obj) : Sl (w.alloc o) B A xs := h.below ((Below.refl B w).alloc hB o) (Nat.le_refl _)
theorem Sl.setCell (h : Sl w B A xs) {p : Addr} (hp : B ≤ p.block) (u : Value) : Sl (w.setCell p u) B A xs := h.below ((Below.refl B w).setCell hp u) (Nat.le_refl _)
theorem Sl.drop (h : Sl w B A xs) {k cap : Nat} (hc : xs.length ≤ cap) : Sl w B (if cap = k then A else A.map (·.add k)) (xs.drop k) := by
  by_cases hk : k < xs.length
  · rcases h with h | ⟨b, off, e, hb, hcell⟩
    · rw [h] at hk; simp at hk
    · right
      rw [if_neg (by omega)]
      refine ⟨b, off + k, by rw [e]; simp only [Option.map_some, Addr.add]; split <;> simp_all, hb, fun j u hu => ?_⟩
      rw [List.getElem?_drop] at hu
      have := hcell _ u hu
      rw [show off + k + j = off + (k + j) from by omega]
      exact this
  · left
    rw [List.drop_eq_nil_of_le (by omega)]
theorem Sl.head {x : Value} (h : Sl w B A (x :: xs)) : ∃ b off, A = some ⟨b, off, none⟩ ∧ b < B ∧ w.cell? ⟨b, off, none⟩ = some x := by
  rcases h with h | ⟨b, off, e, hb, hc⟩
  · cases h
  · exact ⟨b, off, e, hb, hc 0 x rfl⟩
theorem Sl.tail {x : Value} {b off c : Nat} (h : Sl w B (some ⟨b, off, none⟩) (x :: xs)) (hc : xs.length + 1 ≤ c) : Sl w B (if c = 1 then some ⟨b, off, none⟩ else some ⟨b, off + 1, none⟩) xs := by
  have := h.drop (k := 1) (cap := c) (by simpa using hc)
  simpa [Addr.add] using this
theorem Sl.of_own {base : Nat} {e : TypeId} {c n : Nat} (h : w.ownsRow base e 1 (.slice A n c) n xs) : Sl w w.heap.size A xs := by
  obtain ⟨hl, h2⟩ := h
  rcases h2 with ⟨_, hn⟩ | ⟨g, cap, cur, hv, _, hg, h1, _, _, ht⟩
  · exact .inl (List.eq_nil_of_length_eq_zero (by omega))
  · injection hv with hA
    subst hA
    refine .inr ⟨g, 0, rfl, (Array.getElem?_eq_some_iff.1 hg).1, fun j u hu => ?_⟩
    rw [Nat.zero_add, cell_of_row w g j cur e (0, 0) hg]
    rw [← ht, List.getElem?_take] at hu
    split at hu
    · simpa using hu
    · cases hu
end

/-- what the walk is told of a slice of integers that came in: it is nil; or it leads to a row of 'cap' cells (the first 'len' are its elements) -/
def IsRow (k : IntKind) (w : World) (a : Option Addr) (len cap : Nat) (zs : List Int) : Prop :=
  (a = none ∧ len = 0 ∧ cap = 0 ∧ zs = []) ∨
  ∃ x, a = some x ∧ len ≤ cap ∧ cap ≤ maxLen ∧ zs.length = cap ∧ (∀ i, i < zs.length → w.cell? (x.add i) = some (.int k (zs.getD i 0))) ∧ ∀ n ∈ zs, (Lit.int k n).wf = true

theorem IsRow.le {k : IntKind} {w : World} {a : Option Addr} {len cap : Nat} {zs : List Int} (h : IsRow k w a len cap zs) : len ≤ cap ∧ cap ≤ maxLen := by
  rcases h with ⟨_, rfl, rfl, _⟩ | ⟨_, _, h1, h2, _⟩
  · exact ⟨Nat.le_refl _, by simp [maxLen]⟩
  · exact ⟨h1, h2⟩

theorem IsRow.sl {k : IntKind} {w : World} {a : Option Addr} {len cap : Nat} {zs : List Int} (h : IsRow k w a len cap zs) : (zs.take len).length = len ∧ Sl w w.heap.size a ((zs.take len).map (.int k)) ∧ ∀ n ∈ zs.take len, (Lit.int k n).wf = true := by
  rcases h with ⟨rfl, rfl, rfl, rfl⟩ | ⟨x, rfl, h1, h2, hz, hc, hw⟩
  · exact ⟨rfl, .inl rfl, by simp⟩
  · refine ⟨by rw [List.length_take]; omega, ?_, fun n hn => hw n (List.mem_of_mem_take hn)⟩
    by_cases h0 : len = 0
    · subst h0; exact .inl (by simp)
    · right
      obtain ⟨b, off, spot⟩ := x
      have hc0 := hc 0 (by omega)
      have hspot : spot = none := by simpa [Addr.add] using World.cell?_spot hc0
      subst hspot
      refine ⟨b, off, rfl, ?_, fun j u hj => ?_⟩
      · simpa [Addr.add] using World.block_lt_of_cell? w _ hc0
      · rw [List.getElem?_map, List.getElem?_take] at hj
        split at hj
        · have hjz : j < zs.length := by omega
          have := hc j hjz
          have e : (⟨b, off, none⟩ : Addr).add j = ⟨b, off + j, none⟩ := by unfold Addr.add; split <;> simp_all
          rw [e] at this
          rw [this, ← hj, List.getElem?_eq_getElem hjz]
          simp [List.getD, hjz]
        · cases hj

theorem wf_u8 {n : Int} (h : (Lit.int .u8 n).wf = true) : 0 ≤ n ∧ n ≤ 255 := by simpa [Lit.wf, IntKind.min, IntKind.max, IntKind.signed, IntKind.bits] using h
theorem wf_i64 {n : Int} (h : (Lit.int .i64 n).wf = true) : -9223372036854775808 ≤ n ∧ n ≤ 9223372036854775807 := by simpa [Lit.wf, IntKind.min, IntKind.max, IntKind.signed, IntKind.bits] using h

/-- bytes that came in -/
theorem IsRow.bytes {w : World} {a : Option Addr} {len cap : Nat} {zs : List Int} (h : IsRow .u8 w a len cap zs) : ∃ bs : List Nat, bs.length = len ∧ Sl w w.heap.size a (bs.map b8) ∧ ∀ x ∈ bs, x < 256 := by
  obtain ⟨h1, h2, h3⟩ := h.sl
  refine ⟨(zs.take len).map Int.toNat, by simpa using h1, ?_, fun x hx => ?_⟩
  · have e : ((zs.take len).map Int.toNat).map b8 = (zs.take len).map (.int .u8) := by
      rw [List.map_map]
      refine List.map_congr_left fun n hn => ?_
      have := wf_u8 (h3 n hn)
      show Value.int .u8 (n.toNat : Int) = _
      rw [Int.toNat_of_nonneg this.1]
    rw [e]; exact h2
  · obtain ⟨n, hn, rfl⟩ := List.mem_map.1 hx
    have := wf_u8 (h3 n hn)
    omega

theorem Sl.of_ownN {w : World} {base size : Nat} {e : TypeId} {A : Option Addr} {c n : Nat} {xs : List Value} (h : w.ownsRow base e size (.slice A n c) n xs) : Sl w w.heap.size A xs := by
  obtain ⟨hl, h2⟩ := h
  rcases h2 with ⟨_, hn⟩ | ⟨g, cap, cur, hv, _, hg, h1, _, _, ht⟩
  · exact .inl (List.eq_nil_of_length_eq_zero (by rw [hl, hn]; simp))
  · injection hv with hA
    subst hA
    refine .inr ⟨g, 0, rfl, (Array.getElem?_eq_some_iff.1 hg).1, fun j u hu => ?_⟩
    rw [Nat.zero_add, cell_of_row w g j cur e (0, 0) hg]
    rw [← ht, List.getElem?_take] at hu
    split at hu
    · simpa using hu
    · cases hu
theorem own_cap {w : World} {base size : Nat} {e : TypeId} {A : Option Addr} {c n : Nat} {xs : List Value} (h : w.ownsRow base e size (.slice A n c) n xs) : n ≤ c ∧ c ≤ maxLen := by
  rcases h.2 with ⟨hv, hn⟩ | ⟨g, cap, cur, hv, _, _, h1, h2, _⟩
  · injection hv with _ _ hc
    exact ⟨by omega, by simp [maxLen]; omega⟩
  · injection hv with _ _ hc
    exact ⟨by omega, by omega⟩

/-- the length of a slice in a slot: for a loop's measure -/
def lenOf : Value → Nat | .slice _ n _ => n | _ => 0

/-- an owned row's slice: its shape -/
theorem own_shape {w : World} {base : Nat} {e : TypeId} {size n : Nat} {v : Value} {xs : List Value} (h : w.ownsRow base e size v n xs) : ∃ A c, v = .slice A n c ∧ n ≤ c ∧ c ≤ maxLen := by
  rcases h.2 with ⟨rfl, rfl⟩ | ⟨g, cap, cur, rfl, _, _, h1, h2, _⟩
  · exact ⟨none, 0, rfl, Nat.le_refl _, by simp [maxLen]⟩
  · exact ⟨_, cap, rfl, h1, h2⟩
end Go.Proofs.Ytnkkpdpjkfjmnaa.Me
