/-
  Words for memory: a frame that names what may have changed; a sequence of bits in memory. No program text here.
-/
import Derived.Test.YtnkkpdpjkfjmnaaApp
import Derived.Test.YtnkkpdpjkfjmnaaPart
namespace Go.Proofs.Ytnkkpdpjkfjmnaa.Me
open Go.RowKit
set_option linter.unusedVariables false

/-- below block B all is as it was; above it, what the test M lets change may have changed, all else is as it was -/
structure Fr (B : Nat) (M : Nat → TypeId → Prop) (w w' : World) : Prop where
  os : w'.os = w.os
  tape : w'.tape = w.tape
  output : w'.output = w.output
  size : w.heap.size ≤ w'.heap.size
  low : ∀ k, k < B → w'.heap[k]? = w.heap[k]?
  rest : ∀ (k : Nat) cur t fr, w.heap[k]? = some (.cells cur t fr) → ¬ M k t → w'.heap[k]? = w.heap[k]?

section
variable {B B' : Nat} {M : Nat → TypeId → Prop} {w w' w'' : World}
theorem Fr.refl : Fr B M w w := ⟨rfl, rfl, rfl, Nat.le_refl _, fun _ _ => rfl, fun _ _ _ _ _ _ => rfl⟩
theorem Fr.trans (h : Fr B M w w') (k : Fr B M w' w'') : Fr B M w w'' :=
  ⟨k.os.trans h.os, k.tape.trans h.tape, k.output.trans h.output, Nat.le_trans h.size k.size, fun i hi => (k.low i hi).trans (h.low i hi),
    fun i cur t fr hc hM => by
      have e := h.rest i cur t fr hc hM
      exact (k.rest i cur t fr (e.trans hc) hM).trans e⟩
theorem Fr.below (h : Fr B M w w') : Below B w w' := ⟨h.os, h.tape, h.output, h.size, h.low⟩
theorem Fr.of_below (h : Below w.heap.size w w') (hB : B ≤ w.heap.size) : Fr B M w w' :=
  ⟨h.os, h.tape, h.output, h.size, fun i hi => h.block i (by omega), fun i cur t fr hc _ => h.block i (Array.getElem?_eq_some_iff.1 hc).1⟩
theorem Fr.drew (h : Fr B M w w') : Fr B M w w'.drew := ⟨h.os, h.tape, h.output, h.size, h.low, h.rest⟩
theorem Fr.drewN (h : Fr B M w w') (n : Nat) : Fr B M w (w'.drewN n) := ⟨h.os, h.tape, h.output, h.size, h.low, h.rest⟩
theorem Fr.alloc (h : Fr B M w w') (hB : B ≤ w'.heap.size) (o : Obj) : Fr B M w (w'.alloc o) := h.trans (Fr.of_below ((Below.refl _ _).alloc (Nat.le_refl _) o) hB)
theorem Fr.mono {M' : Nat → TypeId → Prop} (h : Fr B M w w') (hM : ∀ k t, M k t → M' k t) (hB : B' ≤ B) : Fr B' M' w w' :=
  ⟨h.os, h.tape, h.output, h.size, fun i hi => h.low i (by omega), fun i cur t fr hc hm => h.rest i cur t fr hc (fun hh => hm (hM _ _ hh))⟩
theorem Fr.setCell (h : Fr B M w w') {p : Addr} (u : Value) (hB : B ≤ p.block) (hM : (∀ t, M p.block t) ∨ w.heap.size ≤ p.block) : Fr B M w (w'.setCell p u) :=
  ⟨h.os, h.tape, h.output, by simpa [World.setCell] using h.size, fun i hi => (Below.heap_setCell _ _ _ _ (by omega)).trans (h.low i hi),
    fun i cur t fr hc hm => by
      refine (Below.heap_setCell _ _ _ _ (fun e => ?_)).trans (h.rest i cur t fr hc hm)
      rcases hM with hM | hM
      · exact hm (e ▸ hM t)
      · have := (Array.getElem?_eq_some_iff.1 hc).1
        omega⟩
/-- an append onto a row of the element type e -/
theorem Fr.grown (h : Fr B M w w') {e : TypeId} {base size n : Nat} {v : Value} {xs : List Value} (hown : w'.ownsRow base e size v n xs) (hg : w'.grownBy w'' v.ownBlock) (hB : B ≤ base) (hBw : B ≤ w'.heap.size) (hM : ∀ k, M k e) : Fr B M w w'' := by
  refine h.trans ⟨hg.os, hg.tape, hg.output, hg.size, fun i hi => hg.block i (by omega) (fun e => ?_), fun i cur t fr hc hm => hg.block i (Array.getElem?_eq_some_iff.1 hc).1 (fun e => ?_)⟩
  · have := (hown.lt i e.symm).1
    omega
  · rcases hown.2 with ⟨rfl, _⟩ | ⟨g, cap, cur', rfl, _, hh, _⟩
    · simp [Value.ownBlock] at e
    · simp [Value.ownBlock] at e
      subst e
      rw [hh] at hc
      injection hc with hc
      injection hc with _ ht
      exact hm (ht ▸ hM _)
theorem Fr.keep {cur : Array Value} {t : TypeId} {fr : Nat × Nat} {k : Nat} (h : Fr B M w w') (hc : w.heap[k]? = some (.cells cur t fr)) (hM : ¬ M k t) : w'.heap[k]? = some (.cells cur t fr) := (h.rest k cur t fr hc hM).trans hc
theorem Fr.own (h : Fr B M w w') {e : TypeId} {base size n : Nat} {v : Value} {xs : List Value} (hown : w.ownsRow base e size v n xs) (hM : ∀ k, ¬ M k e) : w'.ownsRow base e size v n xs := by
  refine ⟨hown.1, ?_⟩
  rcases hown.2 with h' | ⟨g, cap, cur, e1, e2, hh, r⟩
  · exact .inl h'
  · exact .inr ⟨g, cap, cur, e1, e2, h.keep hh (hM g), r⟩
end

theorem own_below {w w' : World} {B base size n : Nat} {e : TypeId} {v : Value} {xs : List Value} (h : w.ownsRow base e size v n xs) (hb : Below B w w') (hB : w.heap.size ≤ B) : w'.ownsRow base e size v n xs := by
  refine ⟨h.1, ?_⟩
  rcases h.2 with h' | ⟨g, cap, cur, e1, e2, hh, r⟩
  · exact .inl h'
  · exact .inr ⟨g, cap, cur, e1, e2, (hb.block g (by have := (Array.getElem?_eq_some_iff.1 hh).1; omega)).trans hh, r⟩

/-- the value of a part's list -/
def ListV (w : World) (v : Value) (l : Option (List Bool)) : Prop :=
  (l = none ∧ v = .slice none 0 0) ∨ ∃ bs, l = some bs ∧ v ≠ .slice none 0 0 ∧ w.ownsRow 0 4 1 v bs.length (bs.map .bool)

/-- the parts of a sequence of bits -/
def PartsV (w : World) (B : Nat) (v : Value) (ps : List Pu.Part) : Prop :=
  ∃ xs, w.ownsRow B 56 4 v ps.length xs ∧ ∀ (k : Nat) p, ps[k]? = some p → ∃ lv, xs[4 * k]? = some (.int .i64 (p.start : Int)) ∧ xs[4 * k + 1]? = some (.int .i64 (p.long : Int)) ∧ xs[4 * k + 2]? = some lv ∧ xs[4 * k + 3]? = some (.int .i64 (p.back : Int)) ∧ ListV w lv p.list

section
variable {B : Nat} {M : Nat → TypeId → Prop} {w w' : World} {v : Value} {ps : List Pu.Part} {l : Option (List Bool)}
theorem ListV.keep (h : ListV w v l) (hk : ∀ base n xs, w.ownsRow base 4 1 v n xs → w'.ownsRow base 4 1 v n xs) : ListV w' v l := by
  rcases h with h | ⟨bs, e, hn, ho⟩
  · exact .inl h
  · exact .inr ⟨bs, e, hn, hk _ _ _ ho⟩
theorem ListV.fr (h : ListV w v l) (hf : Fr B M w w') (hM : ∀ k, ¬ M k 4) : ListV w' v l := h.keep fun _ _ _ ho => hf.own ho hM
theorem ListV.below (h : ListV w v l) (hb : Below w.heap.size w w') : ListV w' v l := h.keep fun _ _ _ ho => own_below ho hb (Nat.le_refl _)
theorem ListV.oneCell (h : ListV w v l) : v.oneCell' = true := by
  rcases h with ⟨_, rfl⟩ | ⟨bs, _, _, ho⟩
  · rfl
  · obtain ⟨A, c, rfl, _⟩ := own_shape ho
    rfl
theorem PartsV.nil : PartsV w B (.slice none 0 0) [] := ⟨[], World.ownsRow_nil _ _ _ _, fun k p h => by simp at h⟩
theorem PartsV.fr (h : PartsV w B v ps) {B' : Nat} (hf : Fr B' M w w') (hM : ∀ k, ¬ M k 4) (hM' : ∀ k, ¬ M k 56) : PartsV w' B v ps := by
  obtain ⟨xs, ho, hx⟩ := h
  refine ⟨xs, hf.own ho hM', fun k p hp => ?_⟩
  obtain ⟨lv, h1, h2, h3, h4, h5⟩ := hx k p hp
  exact ⟨lv, h1, h2, h3, h4, h5.fr hf hM⟩
theorem PartsV.below (h : PartsV w B v ps) (hb : Below w.heap.size w w') : PartsV w' B v ps := by
  obtain ⟨xs, ho, hx⟩ := h
  refine ⟨xs, own_below ho hb (Nat.le_refl _), fun k p hp => ?_⟩
  obtain ⟨lv, h1, h2, h3, h4, h5⟩ := hx k p hp
  exact ⟨lv, h1, h2, h3, h4, h5.below hb⟩
/-- one part more -/
theorem parts_snoc {xs : List Value} {v' lv : Value} {p : Pu.Part} (hown : w.ownsRow B 56 4 v ps.length xs)
    (hx : ∀ (k : Nat) p, ps[k]? = some p → ∃ lv, xs[4 * k]? = some (.int .i64 (p.start : Int)) ∧ xs[4 * k + 1]? = some (.int .i64 (p.long : Int)) ∧ xs[4 * k + 2]? = some lv ∧ xs[4 * k + 3]? = some (.int .i64 (p.back : Int)) ∧ ListV w lv p.list)
    (hlv : ListV w lv p.list) (hown' : w'.ownsRow B 56 4 v' (ps.length + 1) (xs ++ [.int .i64 (p.start : Int), .int .i64 (p.long : Int), lv, .int .i64 (p.back : Int)]))
    (hg : w.grownBy w' v.ownBlock) : PartsV w' B v' (ps ++ [p]) := by
  have hk : ∀ u (l : Option (List Bool)), ListV w u l → ListV w' u l := by
    intro u l hu
    refine hu.keep fun base n ys ho => ?_
    refine ⟨ho.1, ?_⟩
    rcases ho.2 with h' | ⟨g, cap, cur, e1, e2, hh, r⟩
    · exact .inl h'
    · refine .inr ⟨g, cap, cur, e1, e2, (hg.block g (Array.getElem?_eq_some_iff.1 hh).1 (fun e => ?_)).trans hh, r⟩
      rcases hown.2 with ⟨rfl, _⟩ | ⟨g', cap', cur', rfl, _, hh', _⟩
      · simp [Value.ownBlock] at e
      · simp [Value.ownBlock] at e
        subst e
        rw [hh'] at hh
        injection hh with hh
        injection hh with _ ht
        cases ht
  have hl : xs.length = 4 * ps.length := by have := hown.1; omega
  refine ⟨_, by simpa using hown', fun k q hq => ?_⟩
  by_cases hlt : k < ps.length
  · rw [List.getElem?_append_left hlt] at hq
    obtain ⟨lv', h1, h2, h3, h4, h5⟩ := hx k q hq
    refine ⟨lv', ?_, ?_, ?_, ?_, hk _ _ h5⟩
    all_goals rw [List.getElem?_append_left (by omega)]; assumption
  · have hk0 : k = ps.length := by
      have := (List.getElem?_eq_some_iff.1 hq).1
      simp at this; omega
    subst hk0
    simp at hq
    subst hq
    refine ⟨lv, ?_, ?_, ?_, ?_, hk _ _ hlv⟩
    all_goals rw [List.getElem?_append_right (by omega)]
    · rw [show 4 * ps.length - xs.length = 0 from by omega]; rfl
    · rw [show 4 * ps.length + 1 - xs.length = 1 from by omega]; rfl
    · rw [show 4 * ps.length + 2 - xs.length = 2 from by omega]; rfl
    · rw [show 4 * ps.length + 3 - xs.length = 3 from by omega]; rfl
end

/-- a block known whole -/
def Blk (w : World) (g : Nat) (t : TypeId) (cs : Array Value) : Prop := w.heap[g]? = some (.cells cs t (0, 0))
section
variable {w w' : World} {g : Nat} {t : TypeId} {cs : Array Value}
theorem Blk.lt (h : Blk w g t cs) : g < w.heap.size := (Array.getElem?_eq_some_iff.1 h).1
theorem Blk.cell (h : Blk w g t cs) (i : Nat) : w.cell? ⟨g, i, none⟩ = cs[i]? := cell_of_row w g i cs t (0, 0) h
theorem Blk.frozen (h : Blk w g t cs) (i : Nat) : w.frozen? ⟨g, i, none⟩ = false := by unfold Blk at h; simp [World.frozen?, h]
theorem Blk.new (w : World) (t : TypeId) (cs : Array Value) : Blk (w.alloc (.cells cs t)) w.heap.size t cs := heap_alloc_new w _
theorem Blk.alloc (h : Blk w g t cs) (o : Obj) : Blk (w.alloc o) g t cs := (Below.heap_alloc w o g h.lt).trans h
theorem Blk.set_ (h : Blk w g t cs) (i : Nat) (u : Value) : Blk (w.setCell ⟨g, i, none⟩ u) g t (cs.setIfInBounds i u) := by
  unfold Blk at h ⊢
  simp [World.setCell, Array.getElem?_modify, h]
theorem Blk.far (h : Blk w g t cs) {p : Addr} (hp : g ≠ p.block) (u : Value) : Blk (w.setCell p u) g t cs := (Below.heap_setCell w p u g hp).trans h
theorem Blk.below {B : Nat} (h : Blk w g t cs) (hb : Below B w w') (hg : g < B) : Blk w' g t cs := (hb.block g hg).trans h
theorem Blk.fr {B : Nat} {M : Nat → TypeId → Prop} (h : Blk w g t cs) (hf : Fr B M w w') (hM : ¬ M g t) : Blk w' g t cs := hf.keep h hM
theorem Blk.grown {row : Option Nat} (h : Blk w g t cs) (hb : w.grownBy w' row) (hg : some g ≠ row) : Blk w' g t cs := (hb.block g h.lt hg).trans h
theorem own_ne {base : Nat} {e : TypeId} {size n : Nat} {v : Value} {xs : List Value} (h : w.ownsRow base e size v n xs) (hg : Blk w g t cs) (hne : e ≠ t) : some g ≠ v.ownBlock := by
  rcases h.2 with ⟨rfl, _⟩ | ⟨g', cap, cur, rfl, _, hh, _⟩
  · simp [Value.ownBlock]
  · intro he
    have : g = g' := by simpa [Value.ownBlock] using he
    subst this
    unfold Blk at hg
    rw [hg] at hh
    injection hh with hh
    injection hh with _ ht
    exact hne ht.symm
end

theorem own_far {w : World} {g : Nat} {t : TypeId} {cs : Array Value} {base : Nat} {e : TypeId} {size n : Nat} {v : Value} {xs : List Value} (h : w.ownsRow base e size v n xs) (hg : Blk w g t cs) (hne : e ≠ t) (i : Nat) (u : Value) : (w.setCell ⟨g, i, none⟩ u).ownsRow base e size v n xs :=
  ownsRow_setCell_other h (fun he => own_ne h hg hne he.symm) u
theorem PartsV.far {w : World} {g : Nat} {t : TypeId} {cs : Array Value} {B : Nat} {v : Value} {ps : List Pu.Part} (h : PartsV w B v ps) (hg : Blk w g t cs) (h4 : 4 ≠ t) (h56 : 56 ≠ t) (i : Nat) (u : Value) : PartsV (w.setCell ⟨g, i, none⟩ u) B v ps := by
  obtain ⟨xs, ho, hx⟩ := h
  refine ⟨xs, own_far ho hg h56 i u, fun k p hp => ?_⟩
  obtain ⟨lv, h1, h2, h3, h4', h5⟩ := hx k p hp
  exact ⟨lv, h1, h2, h3, h4', h5.keep fun _ _ _ ho => own_far ho hg h4 i u⟩
theorem PartsV.drew {w : World} {B : Nat} {v : Value} {ps : List Pu.Part} (h : PartsV w B v ps) : PartsV w.drew B v ps := h
theorem PartsV.drewN {w : World} {B n : Nat} {v : Value} {ps : List Pu.Part} (h : PartsV w B v ps) : PartsV (w.drewN n) B v ps := h

/-- a sequence of bits that lies in block g -/
def BitsAt (w : World) (g B : Nat) (b : Pu.Bs) : Prop := ∃ v, Blk w g 30 #[v, .int .i64 (b.long : Int)] ∧ PartsV w B v b.parts


theorem BitsAt.shape {w : World} {g B : Nat} {b : Pu.Bs} (h : BitsAt w g B b) : ∃ A c, Blk w g 30 #[.slice A b.parts.length c, .int .i64 (b.long : Int)] ∧ PartsV w B (.slice A b.parts.length c) b.parts := by
  obtain ⟨v, h1, xs, h2, h3⟩ := h
  obtain ⟨A, c, rfl, _⟩ := own_shape h2
  exact ⟨A, c, h1, xs, h2, h3⟩

/-- s[k:] : where it begins is left unsaid, what it reads as is said -/
theorem slice_from {P : Program} {t : TypeId} (ht : P.underlying t = some (.slice (P.elem t))) (hsz : ∀ W, (sizeOf (P.elem t)).run P W = .ok 1 W) {w : World} {B : Nat} {A : Option Addr} {xs : List Value} (hS : Sl w B A xs) {n c : Nat} (k : Nat) (ki : Int) (n' c' : Nat) (hki : ki = (k : Int)) (hn' : n = n' + k) (hc' : c' = c - k) (hn : xs.length = n) (hc : n ≤ c) :
    ∃ A1, Sl w B A1 (xs.drop k) ∧ ∀ (kd : IntKind) (W : World), (Instr.slice t (.slice A n c) (some (.int kd ki)) none none).run P W = .ok (.slice A1 n' c') W := by
  refine ⟨_, hS.drop (k := k) (cap := c) (by omega), fun kd W => ?_⟩
  subst hki
  rw [run_slice_l W t A n c ht kd k (by omega) (by omega), hsz W]
  simp [Result.andThen, sliced, hc', show n - k = n' from by omega]
end Go.Proofs.Ytnkkpdpjkfjmnaa.Me
