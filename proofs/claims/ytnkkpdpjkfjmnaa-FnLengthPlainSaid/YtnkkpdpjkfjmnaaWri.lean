/-
  Plain: a writer of programs of bits, what it writes, and that what it writes says the bits of the steps. No program here.
-/
import Derived.Test.YtnkkpdpjkfjmnaaBit2
namespace Go.Proofs.Ytnkkpdpjkfjmnaa.Pu

/-! ### bits in bytes -/
def b2n (b : Bool) : Nat := if b then 1 else 0

/-- the number whose bits, the lowest first, are these -/
def bitsNum : List Bool → Nat
  | [] => 0
  | b :: r => b2n b + 2 * bitsNum r

theorem bitsNum_lt (l : List Bool) : bitsNum l < 2 ^ l.length := by
  induction l with
  | nil => simp [bitsNum]
  | cons b r ih =>
    simp only [bitsNum, List.length_cons, Nat.pow_succ, b2n]
    split <;> omega

theorem bitsNum_snoc (l : List Bool) (b : Bool) : bitsNum (l ++ [b]) = bitsNum l + b2n b * 2 ^ l.length := by
  induction l with
  | nil => simp [bitsNum]
  | cons c r ih =>
    simp only [List.cons_append, bitsNum, List.length_cons, Nat.pow_succ, ih]
    rw [Nat.mul_add, ← Nat.mul_assoc, Nat.mul_comm 2 (b2n b), Nat.mul_assoc, Nat.mul_comm 2 (2 ^ r.length)]
    omega

theorem bitsNum_bit (l : List Bool) (k : Nat) (hk : k < l.length) : (bitsNum l / 2 ^ k % 2 == 1) = l[k] := by
  induction l generalizing k with
  | nil => simp at hk
  | cons b r ih =>
    cases k with
    | zero =>
      simp only [bitsNum, Nat.pow_zero, Nat.div_one, List.getElem_cons_zero, b2n]
      cases b
      · simp
      · simp
    | succ k =>
      have := ih k (by simpa using hk)
      simp only [bitsNum, List.getElem_cons_succ]
      rw [← this, Nat.pow_succ, Nat.mul_comm (2 ^ k) 2, ← Nat.div_div_eq_div_mul]
      congr 3
      unfold b2n
      split <;> omega

def byteAt (l : List Bool) (k : Nat) : Nat := bitsNum ((l.drop (8 * k)).take 8)
def pack (l : List Bool) : List Nat := (List.range ((l.length + 7) / 8)).map (byteAt l)

theorem byteAt_lt (l : List Bool) (k : Nat) : byteAt l k < 256 := by
  have h := bitsNum_lt ((l.drop (8 * k)).take 8)
  have h2 : 2 ^ ((l.drop (8 * k)).take 8).length ≤ 2 ^ 8 := Nat.pow_le_pow_right (by omega) (List.length_take_le _ _)
  unfold byteAt
  omega

theorem pack_length (l : List Bool) : (pack l).length = (l.length + 7) / 8 := by simp [pack]

theorem litBits_pack (l : List Bool) (rest : List Nat) : litBits l.length (pack l ++ rest) = l := by
  apply List.ext_getElem
  · rw [litBits_length]
  · intro i h1 h2
    rw [litBits_length] at h1
    have hk : i / 8 < (pack l).length := by rw [pack_length]; omega
    simp only [litBits, List.getElem_map, List.getElem_range, bitAt]
    have e : (pack l ++ rest).getD (i / 8) 0 = byteAt l (i / 8) := by
      rw [List.getD_eq_getElem?_getD, List.getElem?_append_left hk, List.getElem?_eq_getElem hk]
      simp [pack]
    rw [e]
    unfold byteAt
    have hl : i % 8 < ((l.drop (8 * (i / 8))).take 8).length := by
      rw [List.length_take, List.length_drop]; omega
    rw [bitsNum_bit _ (i % 8) hl]
    rw [List.getElem_take, List.getElem_drop]
    congr 1
    omega

/-- the byte under way behind i bits -/
def part (l : List Bool) (i : Nat) : Nat := bitsNum ((l.drop (8 * (i / 8))).take (i % 8))

theorem part_lt (l : List Bool) (i : Nat) : part l i < 2 ^ (i % 8) := by
  have h := bitsNum_lt ((l.drop (8 * (i / 8))).take (i % 8))
  have h2 : 2 ^ ((l.drop (8 * (i / 8))).take (i % 8)).length ≤ 2 ^ (i % 8) := Nat.pow_le_pow_right (by omega) (List.length_take_le _ _)
  unfold part
  omega

theorem part_next {l : List Bool} {i : Nat} (hi : i < l.length) : part l i + b2n (l.getD i false) * 2 ^ (i % 8) = bitsNum ((l.drop (8 * (i / 8))).take (i % 8 + 1)) := by
  have hk : i % 8 < (l.drop (8 * (i / 8))).length := by rw [List.length_drop]; omega
  rw [List.take_succ_eq_append_getElem hk, bitsNum_snoc, List.length_take, Nat.min_eq_left (by omega)]
  unfold part
  congr 3
  rw [List.getElem_drop, List.getD_eq_getElem?_getD, List.getElem?_eq_getElem hi]
  simp only [Option.getD_some]
  congr 1
  omega

theorem part_full {l : List Bool} {i : Nat} (hi : i < l.length) (h : (i + 1) % 8 = 0) : part l i + b2n (l.getD i false) * 2 ^ (i % 8) = byteAt l (i / 8) ∧ part l (i + 1) = 0 ∧ (i + 1) / 8 = i / 8 + 1 := by
  refine ⟨?_, ?_, by omega⟩
  · rw [part_next hi, show i % 8 + 1 = 8 from by omega]
    rfl
  · unfold part
    rw [h]
    rfl

theorem part_more {l : List Bool} {i : Nat} (hi : i < l.length) (h : (i + 1) % 8 ≠ 0) : part l i + b2n (l.getD i false) * 2 ^ (i % 8) = part l (i + 1) ∧ (i + 1) / 8 = i / 8 := by
  refine ⟨?_, by omega⟩
  rw [part_next hi]
  unfold part
  rw [show (i + 1) / 8 = i / 8 from by omega, show (i + 1) % 8 = i % 8 + 1 from by omega]

theorem part_end (l : List Bool) : part l l.length = byteAt l (l.length / 8) := by
  unfold part byteAt
  rw [List.take_of_length_le (by rw [List.length_drop]; omega), List.take_of_length_le (by rw [List.length_drop]; omega)]

theorem pack_even {l : List Bool} (h : l.length % 8 = 0) : pack l = (List.range (l.length / 8)).map (byteAt l) := by
  unfold pack
  rw [show (l.length + 7) / 8 = l.length / 8 from by omega]
theorem pack_odd {l : List Bool} (h : l.length % 8 ≠ 0) : pack l = (List.range (l.length / 8)).map (byteAt l) ++ [byteAt l (l.length / 8)] := by
  unfold pack
  rw [show (l.length + 7) / 8 = l.length / 8 + 1 from by omega, List.range_succ]
  simp

/-! ### the writer -/
structure Wr where
  out : List Nat
  pend : List Bool
  index : Nat

def Wr.empty : Wr := ⟨[], [], 0⟩

def Wr.flush (w : Wr) : Wr := if w.pend.length = 0 then w else ⟨w.out ++ w.pend.length :: pack w.pend, [], w.index⟩
def Wr.lit (w : Wr) (x : Bool) : Wr :=
  let v := if w.pend.length = 127 then w.flush else w
  ⟨v.out, v.pend ++ [x], v.index + 1⟩
def codeOf (n : Nat) : List Nat := if n < 128 then [128 + n] else 128 :: enc n
def Wr.rep (w : Wr) (n c : Nat) : Wr := if n = 0 ∨ c = 0 then w else ⟨w.flush.out ++ codeOf n ++ enc c, [], w.index + n * c⟩
def Wr.lits : Wr → Nat → Wr
  | w, 0 => w
  | w, k + 1 => (w.lits k).lit false
def Wr.zero (w : Wr) (N : Nat) : Wr :=
  if N - w.index = 0 then w
  else if N - w.index < 32 then w.lits (N - w.index)
  else (w.lit false).flush.rep 1 (N - w.index - 1)
def Wr.ptr (w : Wr) (N : Nat) : Wr := (w.zero N).lit true
def Wr.step (w : Wr) (o : Op) : Wr :=
  if o.kind = 2 then w.rep o.n.toNat o.c.toNat
  else if o.kind = 1 then w.zero o.n.toNat
  else w.ptr o.n.toNat
def Wr.steps : Wr → List Op → Wr
  | w, [] => w
  | w, o :: l => (w.step o).steps l
def prog (l : List Op) : List Nat := (Wr.empty.steps l).flush.out ++ [0]

theorem flush_pend (w : Wr) : w.flush.pend = [] := by
  unfold Wr.flush
  split
  · exact List.eq_nil_of_length_eq_zero (by assumption)
  · rfl

/-! ### how much is written -/
def Wr.phi (w : Wr) : Nat := w.out.length + 2 * w.pend.length

theorem flush_phi (w : Wr) : w.flush.phi ≤ w.phi := by
  unfold Wr.flush Wr.phi
  split
  · exact Nat.le_refl _
  · simp [pack_length]; omega
theorem lit_phi (w : Wr) (x : Bool) : (w.lit x).phi ≤ w.phi + 2 := by
  have h := flush_phi w
  unfold Wr.lit
  split
  · unfold Wr.phi at h ⊢
    simp
    omega
  · unfold Wr.phi
    simp
    omega
theorem lits_phi (w : Wr) (k : Nat) : (w.lits k).phi ≤ w.phi + 2 * k := by
  induction k with
  | zero => exact Nat.le_refl _
  | succ k ih =>
    have := lit_phi (w.lits k) false
    show ((w.lits k).lit false).phi ≤ _
    omega
theorem codeOf_len {n : Nat} (h : n < 4611686018427387904) : (codeOf n).length ≤ 10 := by
  unfold codeOf
  split
  · simp
  · have := enc_len 8 n (by simpa using (by omega : n < 9223372036854775808))
    simp; omega
theorem rep_phi {w : Wr} {n c : Nat} (hn : n < 4611686018427387904) (hc : c < 4611686018427387904) : (w.rep n c).phi ≤ w.phi + 19 := by
  have h := flush_phi w
  have h1 := codeOf_len hn
  have h2 := enc_len 8 c (by simpa using (by omega : c < 9223372036854775808))
  unfold Wr.rep
  split
  · omega
  · unfold Wr.phi at h ⊢
    simp
    omega
theorem zero_phi {w : Wr} {N : Nat} (hN : N < 4611686018427387904) : (w.zero N).phi ≤ w.phi + 62 := by
  unfold Wr.zero
  split
  · omega
  · split
    · have := lits_phi w (N - w.index)
      omega
    · have h1 := lit_phi w false
      have h2 := flush_phi (w.lit false)
      have h3 := rep_phi (w := (w.lit false).flush) (n := 1) (c := N - w.index - 1) (by omega) (by omega)
      omega
theorem ptr_phi {w : Wr} {N : Nat} (hN : N < 4611686018427387904) : (w.ptr N).phi ≤ w.phi + 64 := by
  have h1 := zero_phi (w := w) hN
  have h2 := lit_phi (w.zero N) true
  unfold Wr.ptr
  omega

/-- the bytes have been read up to b, and some bits are to come: together they are the bits of s -/
structure Good (w : Wr) (b s : Bs) : Prop where
  reads : ∀ rest, rd .empty (w.out ++ rest) = rd b rest
  index : w.index = s.long
  long : s.long = b.long + w.pend.length
  max : s.long ≤ 1152921504606846976
  pend : w.pend.length ≤ 127
  old : ∀ i, i < b.long → bit s i = bit b i
  new : ∀ j, j < w.pend.length → bit s (b.long + j) = w.pend.getD j false

theorem good_empty : Good .empty .empty .empty :=
  ⟨fun _ => rfl, rfl, rfl, by simp [Bs.empty], by simp [Wr.empty], fun _ _ => rfl, fun j hj => by simp [Wr.empty] at hj⟩

theorem step_lit_some {b b' : Bs} {n : Nat} {l : List Bool} {rest : List Nat} (hl : l.length = n) (hn : n < 128) (h : add b n (some l) 0 = some b') :
    step b n (pack l ++ rest) = some (b', rest) := by
  subst hl
  unfold step
  rw [if_pos hn, if_neg (by rw [List.length_append, pack_length]; omega), litBits_pack, h]
  simp [← pack_length]

theorem Good.flush {w : Wr} {b s : Bs} (h : Good w b s) : ∃ b', Good w.flush b' s ∧ w.flush.pend = [] ∧ Same b' s := by
  unfold Wr.flush
  split
  · rename_i h0
    have hp : w.pend = [] := List.eq_nil_of_length_eq_zero h0
    exact ⟨b, h, hp, by have := h.long; rw [h0] at this; omega, fun i hi => (h.old i hi).symm⟩
  · rename_i h0
    obtain ⟨b', hb'⟩ := add_some (b := b) (n := w.pend.length) (back := 0) (l := some w.pend) (by have := h.long; have := h.max; omega)
    have hlong := (add_long hb').1
    have hbit : ∀ i, i < b'.long → bit s i = bit b' i := by
      intro i hi
      by_cases hlt : i < b.long
      · rw [add_bit_old hb' hlt, h.old i hlt]
      · obtain ⟨j, rfl⟩ : ∃ j, i = b.long + j := ⟨i - b.long, by omega⟩
        rw [add_bit_list hb' (by omega), h.new j (by omega)]
    refine ⟨b', ⟨fun rest => ?_, h.index, by have := h.long; simp; omega, h.max, by simp, hbit, fun j hj => by simp at hj⟩, rfl, by have := h.long; omega, fun i hi => (hbit i hi).symm⟩
    rw [List.append_assoc, h.reads, List.cons_append]
    exact rd_some h0 (step_lit_some rfl (by have := h.pend; omega) hb')

theorem flush_index (w : Wr) : w.flush.index = w.index := by unfold Wr.flush; split <;> rfl

theorem Good.lit {w : Wr} {b s s' : Bs} (h : Good w b s) {x : Bool} (hl : s'.long = s.long + 1) (hm : s'.long ≤ 1152921504606846976) (ho : ∀ i, i < s.long → bit s' i = bit s i) (hx : bit s' s.long = x) : ∃ b', Good (w.lit x) b' s' := by
  have aux : ∀ (v : Wr) (b : Bs), Good v b s → v.pend.length < 127 → Good ⟨v.out, v.pend ++ [x], v.index + 1⟩ b s' := by
    intro v b hv hlt
    have hvl := hv.long
    refine ⟨hv.reads, by simp [hv.index, hl], by simp; omega, hm, by simp; omega, fun i hi => (ho i (by omega)).trans (hv.old i hi), fun j hj => ?_⟩
    simp only [List.length_append, List.length_cons, List.length_nil] at hj
    by_cases hjl : j < v.pend.length
    · rw [ho _ (by omega), hv.new j hjl]
      simp [List.getD, List.getElem?_append_left hjl]
    · have : j = v.pend.length := by omega
      subst this
      rw [← hvl, hx]
      simp [List.getD]
  unfold Wr.lit
  by_cases h127 : w.pend.length = 127
  · obtain ⟨b', h1, h2, _⟩ := h.flush
    rw [if_pos h127]
    exact ⟨b', aux _ _ h1 (by rw [h2]; simp)⟩
  · rw [if_neg h127]
    exact ⟨b, aux _ _ h (by have := h.pend; omega)⟩

theorem enc_small_byte {n : Nat} (h : n < 128) : enc n = [n] := enc_small (by omega)

theorem step_code {b b' : Bs} {n c : Nat} {rest : List Nat} (hn : 1 ≤ n) (hn2 : n < 4611686018427387904) (hc : c < 4611686018427387904) (h : again b n c = some b') :
    rd b (codeOf n ++ enc c ++ rest) = rd b' rest := by
  unfold codeOf
  by_cases hlt : n < 128
  · rw [if_pos hlt]
    refine rd_some (by omega) ?_
    show step b (128 + n) (enc c ++ rest) = _
    unfold step hdr
    rw [if_neg (by omega), if_neg (by omega), show 128 + n - 128 = n from by omega]
    simp only [Option.bind_some, dec_enc c rest hc]
    rw [h]
    rfl
  · rw [if_neg hlt, List.cons_append, List.cons_append, List.append_assoc]
    refine rd_some (by omega) ?_
    unfold step hdr
    rw [if_neg (by omega), if_pos rfl, dec_enc n _ hn2]
    simp only [Option.bind_some, dec_enc c rest hc]
    rw [h]
    rfl

theorem Good.rep {w : Wr} {b s s' : Bs} (h : Good w b s) {n c : Nat} (hs : again s n c = some s') : ∃ b', Good (w.rep n c) b' s' := by
  have hg := again_good hs
  have hl := again_long hs
  unfold Wr.rep
  by_cases hc : c = 0
  · rw [if_pos (.inr hc)]
    subst hc
    have e : s' = s := by
      unfold again at hs
      split at hs
      · cases hs
      · unfold add at hs
        split at hs
        · cases hs
        · rw [if_neg (by simp)] at hs
          injection hs with hs
          exact hs.symm
    subst e
    exact ⟨b, h⟩
  · rw [if_neg (by omega)]
    obtain ⟨b1, h1, h2, h3⟩ := h.flush
    have hm := h.max
    have hb1 := h1.long
    rw [h2] at hb1
    simp only [List.length_nil, Nat.add_zero] at hb1
    obtain ⟨b', hb'⟩ := again_some (b := b1) (n := n) (c := c) hg.1 (by omega) (by omega)
    have hlb := again_long hb'
    have hcn : c ≤ n * c := Nat.le_mul_of_pos_left c (by omega)
    have hbit : ∀ i, i < b'.long → bit s' i = bit b' i := by
      intro i hi
      by_cases hlt : i < s.long
      · rw [again_bit_old hs hlt, again_bit_old hb' (by omega), h3.2 i (by omega)]
      · obtain ⟨j, rfl⟩ : ∃ j, i = s.long + j := ⟨i - s.long, by omega⟩
        rw [again_bit_new hs (by omega)]
        have e : s.long + j = b1.long + j := by omega
        rw [e, again_bit_new hb' (by omega), ← hb1, h3.2 _ (by have := Nat.mod_lt j (show 0 < n by omega); omega)]
    refine ⟨b', ⟨fun rest => ?_, by simp [h.index, hl.1], by simp; omega, hl.1 ▸ hl.2, by simp, hbit, fun j hj => by simp at hj⟩⟩
    rw [List.append_assoc, List.append_assoc, h1.reads, ← List.append_assoc]
    exact step_code hg.1 (by omega) (by omega) hb'

/-- s with k noughts more -/
def Zeros (s s' : Bs) (k : Nat) : Prop := s'.long = s.long + k ∧ s'.long ≤ 1152921504606846976 ∧ (∀ i, i < s.long → bit s' i = bit s i) ∧ ∀ j, j < k → bit s' (s.long + j) = false

theorem exists_zeros {s : Bs} {k : Nat} (h : s.long + k ≤ 1152921504606846976) : ∃ s', Zeros s s' k := by
  obtain ⟨s', hs⟩ := add_some (b := s) (n := k) (back := 0) (l := none) h
  have := (add_long hs).1
  exact ⟨s', this, by omega, fun i hi => add_bit_old hs hi, fun j hj => add_bit_zero hs hj⟩

theorem Good.to {w : Wr} {b s s' : Bs} (h : Good w b s) (e : Same s s') : Good w b s' :=
  ⟨h.reads, h.index.trans e.1, e.1.symm.trans h.long, by have := h.max; have := e.1; omega, h.pend, fun i hi => (e.2 i (by have := h.long; omega)).symm.trans (h.old i hi), fun j hj => (e.2 _ (by have := h.long; omega)).symm.trans (h.new j hj)⟩

theorem Zeros.same {s a b : Bs} {k : Nat} (h : Zeros s a k) (g : Zeros s b k) : Same a b := by
  refine ⟨by rw [h.1, g.1], fun i hi => ?_⟩
  by_cases hlt : i < s.long
  · rw [h.2.2.1 i hlt, g.2.2.1 i hlt]
  · obtain ⟨j, rfl⟩ : ∃ j, i = s.long + j := ⟨i - s.long, by omega⟩
    rw [h.2.2.2 j (by have := h.1; omega), g.2.2.2 j (by have := h.1; omega)]

theorem Good.lits {w : Wr} {b s : Bs} (h : Good w b s) (k : Nat) {s' : Bs} (hz : Zeros s s' k) : ∃ b', Good (w.lits k) b' s' := by
  induction k generalizing s' with
  | zero => exact ⟨b, h.to ⟨hz.1.symm, fun i hi => (hz.2.2.1 i hi).symm⟩⟩
  | succ k ih =>
    obtain ⟨s1, hs1⟩ := exists_zeros (s := s) (k := k) (by have := hz.1; have := hz.2.1; omega)
    obtain ⟨b1, h1⟩ := ih hs1
    refine h1.lit (x := false) (by have := hz.1; have := hs1.1; omega) hz.2.1 (fun i hi => ?_) ?_
    · by_cases hlt : i < s.long
      · rw [hz.2.2.1 i hlt, hs1.2.2.1 i hlt]
      · obtain ⟨j, rfl⟩ : ∃ j, i = s.long + j := ⟨i - s.long, by omega⟩
        have := hs1.1
        rw [hz.2.2.2 j (by omega), hs1.2.2.2 j (by omega)]
    · rw [hs1.1, hz.2.2.2 k (by omega)]

theorem Good.zero {w : Wr} {b s s' : Bs} (h : Good w b s) {N : Nat} (hN : s.long ≤ N) (hz : Zeros s s' (N - s.long)) : ∃ b', Good (w.zero N) b' s' := by
  have hz0 := hz
  unfold Wr.zero
  rw [h.index]
  by_cases h0 : N - s.long = 0
  · rw [if_pos h0]
    rw [h0] at hz
    exact ⟨b, h.to ⟨hz.1.symm, fun i hi => (hz.2.2.1 i hi).symm⟩⟩
  · rw [if_neg h0]
    by_cases h32 : N - s.long < 32
    · rw [if_pos h32]
      exact h.lits _ hz
    · rw [if_neg h32]
      have hmax := hz.2.1
      have hl := hz.1
      obtain ⟨s1, hs1⟩ := exists_zeros (s := s) (k := 1) (by omega)
      have hs1l := hs1.1
      obtain ⟨b1, h1⟩ := h.lit (x := false) hs1.1 hs1.2.1 hs1.2.2.1 (by have := hs1.2.2.2 0 (by omega); simpa using this)
      obtain ⟨b2, h2, _, _⟩ := h1.flush
      obtain ⟨s2, hs2⟩ := again_some (b := s1) (n := 1) (c := N - s.long - 1) (by omega) (by omega) (by omega)
      obtain ⟨b3, h3⟩ := h2.rep hs2
      refine ⟨b3, h3.to (Zeros.same (s := s) (k := N - s.long) ?_ hz0)⟩
      have hl2 := again_long hs2
      refine ⟨by omega, by omega, fun i hi => ?_, fun j hj => ?_⟩
      · rw [again_bit_old hs2 (by omega), hs1.2.2.1 i hi]
      · by_cases hj0 : j = 0
        · subst hj0
          rw [again_bit_old hs2 (by omega)]
          exact hs1.2.2.2 0 (by omega)
        · have e : s.long + j = s1.long + (j - 1) := by omega
          rw [e, again_bit_new hs2 (by omega), show s1.long - 1 + (j - 1) % 1 = s.long + 0 from by rw [Nat.mod_one]; omega]
          exact hs1.2.2.2 0 (by omega)

theorem zeroTo_zeros {s s' : Bs} {n : Int} (h : zeroTo s n = some s') : ∃ N : Nat, n = N ∧ s.long ≤ N ∧ Zeros s s' (N - s.long) := by
  obtain ⟨N, e, h1, h2, h3, h4⟩ := zeroTo_inv h
  exact ⟨N, e, h1, by omega, by omega, fun i hi => add_bit_old h2 hi, fun j hj => add_bit_zero h2 hj⟩

theorem Good.step {w : Wr} {b s s' : Bs} (h : Good w b s) {o : Op} (hs : ofStep s o = some s') : ∃ b', Good (w.step o) b' s' := by
  unfold ofStep at hs
  unfold Wr.step
  by_cases h0 : o.kind = 0
  · rw [if_pos h0] at hs
    rw [if_neg (by omega), if_neg (by omega)]
    cases hz : zeroTo s o.n with
    | none => rw [hz] at hs; cases hs
    | some s1 =>
      rw [hz] at hs
      simp only [Option.bind_some] at hs
      obtain ⟨N, e, h1, h2⟩ := zeroTo_zeros hz
      rw [e, Int.toNat_natCast]
      obtain ⟨b1, g1⟩ := h.zero h1 h2
      have hl := add_long hs
      refine g1.lit (x := true) hl.1 (by omega) (fun i hi => add_bit_old hs hi) ?_
      have := add_bit_list hs (j := 0) (by omega)
      simpa using this
  · rw [if_neg h0] at hs
    by_cases h1 : o.kind = 1
    · rw [if_pos h1] at hs
      rw [if_neg (by omega), if_pos h1]
      obtain ⟨N, e, g1, g2⟩ := zeroTo_zeros hs
      rw [e, Int.toNat_natCast]
      exact h.zero g1 g2
    · rw [if_neg h1] at hs
      by_cases h2 : o.kind = 2
      · rw [if_pos h2] at hs
        rw [if_pos h2]
        obtain ⟨N, C, e1, e2⟩ := again_inv hs
        rw [e1, e2] at hs ⊢
        rw [Int.toNat_natCast, Int.toNat_natCast]
        exact h.rep hs
      · rw [if_neg h2] at hs
        cases hs

theorem Good.steps {w : Wr} {b s s' : Bs} (h : Good w b s) {l : List Op} (hs : ofL s l = some s') : ∃ b', Good (w.steps l) b' s' := by
  induction l generalizing w b s with
  | nil => injection hs with hs; subst hs; exact ⟨b, h⟩
  | cons o l ih =>
    simp only [ofL] at hs
    cases ho : ofStep s o with
    | none => rw [ho] at hs; cases hs
    | some s1 =>
      rw [ho] at hs
      obtain ⟨b1, h1⟩ := h.step ho
      exact ih h1 hs

/-- a step that is allowed, and what it asks -/
theorem step_cases {s s' : Bs} {o : Op} (h : ofStep s o = some s') :
    (∃ N : Nat, o.kind = 0 ∧ o.n = N ∧ s.long ≤ N ∧ N < 1152921504606846976) ∨ (∃ N : Nat, o.kind = 1 ∧ o.n = N ∧ s.long ≤ N ∧ N ≤ 1152921504606846976) ∨
    (∃ N C : Nat, o.kind = 2 ∧ o.n = N ∧ o.c = C ∧ 1 ≤ N ∧ N ≤ s.long ∧ s.long + N * C ≤ 1152921504606846976) := by
  unfold ofStep at h
  split at h
  · rename_i hk
    left
    cases hz : zeroTo s o.n with
    | none => rw [hz] at h; cases h
    | some s1 =>
      rw [hz] at h
      obtain ⟨N, e, h1, _, h2, _⟩ := zeroTo_inv hz
      have := add_long h
      exact ⟨N, hk, e, h1, by omega⟩
  · split at h
    · rename_i hk
      right; left
      obtain ⟨N, e, h1, _, _, h2⟩ := zeroTo_inv h
      exact ⟨N, hk, e, h1, h2⟩
    · split at h
      · rename_i hk
        right; right
        obtain ⟨N, C, e1, e2⟩ := again_inv h
        rw [e1, e2] at h
        have h1 := again_good h
        have h2 := again_long h
        exact ⟨N, C, hk, e1, e2, h1.1, h1.2, h2.2⟩
      · cases h

theorem step_phi {w : Wr} {s s' : Bs} {o : Op} (h : ofStep s o = some s') : (w.step o).phi ≤ w.phi + 64 := by
  unfold Wr.step
  rcases step_cases h with ⟨N, hk, e, _, h1⟩ | ⟨N, hk, e, _, h1⟩ | ⟨N, C, hk, e1, e2, h1, h2, h3⟩
  · rw [if_neg (by omega), if_neg (by omega), e]
    exact ptr_phi (by omega)
  · rw [if_neg (by omega), if_pos hk, e]
    have := zero_phi (w := w) (N := N) (by omega)
    rw [Int.toNat_natCast]
    omega
  · rw [if_pos hk, e1, e2]
    have hm : C ≤ N * C := Nat.le_mul_of_pos_left C (by omega)
    have hx := s.long
    have hl : s.long ≤ 1152921504606846976 := by omega
    have := rep_phi (w := w) (n := N) (c := C) (by omega) (by omega)
    rw [Int.toNat_natCast, Int.toNat_natCast]
    omega

theorem steps_phi {w : Wr} {s s' : Bs} {l : List Op} (h : ofL s l = some s') : (w.steps l).phi ≤ w.phi + 64 * l.length := by
  induction l generalizing w s with
  | nil => exact Nat.le_refl _
  | cons o l ih =>
    simp only [ofL] at h
    cases ho : ofStep s o with
    | none => rw [ho] at h; cases h
    | some s1 =>
      rw [ho] at h
      have h1 := step_phi (w := w) ho
      have h2 := ih (w := w.step o) h
      simp only [List.length_cons]
      show ((w.step o).steps l).phi ≤ _
      omega

theorem prog_len {l : List Op} {s : Bs} (h : ofL .empty l = some s) : (prog l).length ≤ 64 * l.length + 1 := by
  have h1 := steps_phi (w := .empty) h
  have h2 := flush_phi (Wr.empty.steps l)
  have h3 : Wr.empty.phi = 0 := rfl
  unfold Wr.phi at h1 h2 h3
  unfold prog
  simp
  omega

theorem pack_lt (l : List Bool) : ∀ c ∈ pack l, c < 256 := by
  intro c hc
  unfold pack at hc
  obtain ⟨k, _, rfl⟩ := List.mem_map.1 hc
  exact byteAt_lt l k
theorem flush_lt {w : Wr} (hp : w.pend.length ≤ 127) (h : ∀ c ∈ w.out, c < 256) : ∀ c ∈ w.flush.out, c < 256 := by
  unfold Wr.flush
  split
  · exact h
  · intro c hc
    simp only [List.mem_append, List.mem_cons] at hc
    rcases hc with hc | hc | hc
    · exact h c hc
    · omega
    · exact pack_lt _ c hc
theorem codeOf_lt {n : Nat} : ∀ c ∈ codeOf n, c < 256 := by
  intro c hc
  unfold codeOf at hc
  split at hc
  · simp at hc; omega
  · rcases List.mem_cons.1 hc with h | h
    · omega
    · exact enc_lt n c h
theorem lit_lt {w : Wr} {x : Bool} (hp : w.pend.length ≤ 127) (h : ∀ c ∈ w.out, c < 256) : (∀ c ∈ (w.lit x).out, c < 256) ∧ (w.lit x).pend.length ≤ 127 := by
  unfold Wr.lit
  split
  · exact ⟨flush_lt hp h, by simp [flush_pend]⟩
  · exact ⟨h, by simp; omega⟩
theorem lits_lt {w : Wr} (k : Nat) (hp : w.pend.length ≤ 127) (h : ∀ c ∈ w.out, c < 256) : (∀ c ∈ (w.lits k).out, c < 256) ∧ (w.lits k).pend.length ≤ 127 := by
  induction k with
  | zero => exact ⟨h, hp⟩
  | succ k ih => exact lit_lt ih.2 ih.1
theorem rep_lt {w : Wr} {n c : Nat} (hp : w.pend.length ≤ 127) (h : ∀ c ∈ w.out, c < 256) : (∀ d ∈ (w.rep n c).out, d < 256) ∧ (w.rep n c).pend.length ≤ 127 := by
  unfold Wr.rep
  split
  · exact ⟨h, hp⟩
  · refine ⟨fun d hd => ?_, by simp⟩
    simp only [List.mem_append] at hd
    rcases hd with (hd | hd) | hd
    · exact flush_lt hp h d hd
    · exact codeOf_lt d hd
    · exact enc_lt c d hd
theorem zero_lt {w : Wr} {N : Nat} (hp : w.pend.length ≤ 127) (h : ∀ c ∈ w.out, c < 256) : (∀ d ∈ (w.zero N).out, d < 256) ∧ (w.zero N).pend.length ≤ 127 := by
  unfold Wr.zero
  split
  · exact ⟨h, hp⟩
  · split
    · exact lits_lt _ hp h
    · have h1 := lit_lt (x := false) hp h
      exact rep_lt (by simp [flush_pend]) (flush_lt h1.2 h1.1)
theorem stepw_lt {w : Wr} {o : Op} (hp : w.pend.length ≤ 127) (h : ∀ c ∈ w.out, c < 256) : (∀ d ∈ (w.step o).out, d < 256) ∧ (w.step o).pend.length ≤ 127 := by
  unfold Wr.step
  split
  · exact rep_lt hp h
  · split
    · exact zero_lt hp h
    · have h1 := zero_lt (N := o.n.toNat) hp h
      exact lit_lt h1.2 h1.1
theorem steps_lt {w : Wr} (l : List Op) (hp : w.pend.length ≤ 127) (h : ∀ c ∈ w.out, c < 256) : (∀ d ∈ (w.steps l).out, d < 256) ∧ (w.steps l).pend.length ≤ 127 := by
  induction l generalizing w with
  | nil => exact ⟨h, hp⟩
  | cons o l ih => have h1 := stepw_lt (o := o) hp h; exact ih h1.2 h1.1
theorem prog_lt {l : List Op} {s : Bs} (_h : ofL .empty l = some s) : ∀ c ∈ prog l, c < 256 := by
  have h1 := steps_lt (w := .empty) l (by simp [Wr.empty]) (fun c hc => by simp [Wr.empty] at hc)
  intro c hc
  unfold prog at hc
  rcases List.mem_append.1 hc with hc | hc
  · exact flush_lt h1.2 h1.1 c hc
  · simp at hc; omega

/-- WHAT IS WRITTEN SAYS THE BITS OF THE STEPS -/
theorem prog_says {l : List Op} {s : Bs} (hs : ofL .empty l = some s) : ∃ b, rd .empty (prog l) = some b ∧ Same b s := by
  obtain ⟨b1, h1⟩ := good_empty.steps hs
  obtain ⟨b2, h2, h3, h4⟩ := h1.flush
  refine ⟨b2, ?_, h4⟩
  unfold prog
  rw [h2.reads, rd_zero]
  simp

end Go.Proofs.Ytnkkpdpjkfjmnaa.Pu
