/-
  Plain: sequences of bits whose parts stand one behind the other. No program here.
-/
import Derived.Test.YtnkkpdpjkfjmnaaWri
namespace Go.Proofs.Ytnkkpdpjkfjmnaa.Pu

def total : List Part → Nat
  | [] => 0
  | p :: r => p.long + total r

theorem total_append (l m : List Part) : total (l ++ m) = total l + total m := by
  induction l with
  | nil => simp [total]
  | cons p l ih => simp [total, ih]; omega

/-- the parts stand one behind the other -/
structure Wf (b : Bs) : Prop where
  long : b.long = total b.parts
  part : ∀ k p, b.parts[k]? = some p → p.start = total (b.parts.take k) ∧ p.back ≤ p.start ∧ ∀ l, p.list = some l → l.length = p.long

theorem wf_empty : Wf .empty := ⟨rfl, fun k p h => by simp [Bs.empty] at h⟩

theorem add_wf {b b' : Bs} {n back : Nat} {l : Option (List Bool)} (h : Wf b) (ha : add b n l back = some b') (hl : ∀ ls, l = some ls → ls.length = n) (hb : back ≤ b.long) : Wf b' := by
  unfold add at ha
  split at ha
  · cases ha
  · split at ha
    · injection ha with ha
      subst ha
      refine ⟨by simp [total_append, total, h.long], fun k p hp => ?_⟩
      simp only at hp ⊢
      by_cases hlt : k < b.parts.length
      · rw [List.getElem?_append_left hlt] at hp
        rw [List.take_append_of_le_length (by omega)]
        exact h.part k p hp
      · have hk : k = b.parts.length := by
          have := (List.getElem?_eq_some_iff.1 hp).1
          simp at this; omega
        subst hk
        simp at hp
        subst hp
        refine ⟨?_, hb, hl⟩
        simp [h.long]
    · injection ha with ha
      subst ha
      exact h

theorem again_wf {b b' : Bs} {n c : Int} (h : Wf b) (ha : again b n c = some b') : Wf b' := by
  obtain ⟨N, C, rfl, rfl⟩ := again_inv ha
  have hg := again_good ha
  unfold again at ha
  split at ha
  · cases ha
  · exact add_wf h ha (fun _ e => by cases e) (by rw [Int.toNat_natCast]; exact hg.2)

theorem ofStep_wf {b b' : Bs} {o : Op} (h : Wf b) (hs : ofStep b o = some b') : Wf b' := by
  have hz : ∀ b1, zeroTo b o.n = some b1 → Wf b1 := by
    intro b1 hz
    obtain ⟨N, _, _, h2, _⟩ := zeroTo_inv hz
    exact add_wf h h2 (fun _ e => by cases e) (Nat.zero_le _)
  unfold ofStep at hs
  split at hs
  · cases hzz : zeroTo b o.n with
    | none => rw [hzz] at hs; cases hs
    | some b1 =>
      rw [hzz] at hs
      exact add_wf (hz b1 hzz) hs (fun ls e => by injection e with e; subst e; rfl) (Nat.zero_le _)
  · split at hs
    · exact hz b' hs
    · split at hs
      · exact again_wf h hs
      · cases hs

theorem ofL_wf {b b' : Bs} {l : List Op} (h : Wf b) (hs : ofL b l = some b') : Wf b' := by
  induction l generalizing b with
  | nil => injection hs with hs; subst hs; exact h
  | cons o l ih =>
    simp only [ofL] at hs
    cases ho : ofStep b o with
    | none => rw [ho] at hs; cases hs
    | some b1 => rw [ho] at hs; exact ih (ofStep_wf h ho) hs

theorem step_wf {b : Bs} {x : Nat} {q : List Nat} {y : Bs × List Nat} (h : Wf b) (hs : step b x q = some y) : Wf y.1 := by
  by_cases hx : x < 128
  · unfold step at hs
    rw [if_pos hx] at hs
    split at hs
    · cases hs
    · cases ha : add b x (some (litBits x q)) 0 with
      | none => rw [ha] at hs; cases hs
      | some b1 =>
        rw [ha] at hs
        simp only [Option.map_some, Option.some.injEq] at hs
        subst hs
        exact add_wf h ha (fun ls e => by injection e with e; subst e; exact litBits_length _ _) (Nat.zero_le _)
  · obtain ⟨n, q1, k, _, _, h3⟩ := step_rep hx hs
    exact again_wf h h3

theorem rd_wf {b b' : Bs} {p : List Nat} (h : Wf b) (hr : rd b p = some b') : Wf b' := by
  generalize hn : p.length = n
  induction n using Nat.strongRecOn generalizing b p with
  | ind n ih =>
    cases p with
    | nil => rw [rd_nil] at hr; cases hr
    | cons c q =>
      by_cases hc : c = 0
      · subst hc
        rw [rd_zero] at hr
        split at hr
        · injection hr with hr; subst hr; exact h
        · cases hr
      · cases hs : step b c q with
        | none => rw [rd_none hc hs] at hr; cases hr
        | some y =>
          rw [rd_some (b' := y.1) (q' := y.2) hc hs] at hr
          have hl := step_len (b' := y.1) (q' := y.2) hs
          exact ih y.2.length (by simp at hn; omega) (step_wf h hs) hr rfl

/-- a proper beginning of a program is none -/
theorem step_more {b : Bs} {x : Nat} {q u : List Nat} {y : Bs × List Nat} (h : step b x q = some y) : step b x (q ++ u) = some (y.1, y.2 ++ u) := by
  have hdecA : ∀ (p : List Nat) (i acc : Nat) (r : Nat × List Nat), decA i acc p = some r → decA i acc (p ++ u) = some (r.1, r.2 ++ u) := by
    intro p
    induction p with
    | nil => intro i acc r h; simp [decA] at h
    | cons c p ih =>
      intro i acc r h
      simp only [List.cons_append, decA] at h ⊢
      split at h
      · cases h
      · rename_i h1
        rw [if_neg h1]
        split at h
        · rename_i h2
          rw [if_pos h2]
          injection h with h
          subst h
          rfl
        · rename_i h2
          rw [if_neg h2]
          exact ih _ _ _ h
  have hdec : ∀ (p : List Nat) (r : Nat × List Nat), dec p = some r → dec (p ++ u) = some (r.1, r.2 ++ u) := fun p r h => hdecA p 0 0 r h
  by_cases hx : x < 128
  · unfold step at h ⊢
    rw [if_pos hx] at h ⊢
    split at h
    · cases h
    · rename_i hl
      have hlen : (x + 7) / 8 ≤ q.length := by omega
      have e1 : litBits x (q ++ u) = litBits x q := by
        unfold litBits
        refine List.map_congr_left fun i hi => ?_
        have hi' : i < x := List.mem_range.1 hi
        unfold bitAt
        rw [List.getD_eq_getElem?_getD, List.getD_eq_getElem?_getD, List.getElem?_append_left (by omega)]
      rw [if_neg (by rw [List.length_append]; omega), e1, List.drop_append_of_le_length hlen]
      cases ha : add b x (some (litBits x q)) 0 with
      | none => rw [ha] at h; cases h
      | some b1 =>
        rw [ha] at h
        simp only [Option.map_some, Option.some.injEq] at h
        subst h
        rfl
  · obtain ⟨n, q1, k, h1, h2, h3⟩ := step_rep hx h
    unfold step
    rw [if_neg hx]
    have e1 : hdr x (q ++ u) = some (n, q1 ++ u) := by
      unfold hdr at h1 ⊢
      split
      · rename_i e
        rw [if_pos e] at h1
        exact hdec q (n, q1) h1
      · rename_i e
        rw [if_neg e] at h1
        simp only [Option.some.injEq, Prod.mk.injEq] at h1
        rw [h1.1, h1.2]
    rw [e1]
    simp only [Option.bind_some]
    rw [hdec q1 (k, y.2) h2]
    simp only [Option.bind_some]
    rw [h3]
    rfl

theorem rd_prefix {b r : Bs} {t u : List Nat} (h : rd b t = some r) (hu : u ≠ []) : rd b (t ++ u) = none := by
  generalize hn : t.length = n
  induction n using Nat.strongRecOn generalizing b t with
  | ind n ih =>
    cases t with
    | nil => rw [rd_nil] at h; cases h
    | cons c q =>
      by_cases hc : c = 0
      · subst hc
        rw [rd_zero] at h
        split at h
        · rename_i hq
          subst hq
          rw [List.cons_append, rd_zero]
          simp [hu]
        · cases h
      · cases hs : step b c q with
        | none => rw [rd_none hc hs] at h; cases h
        | some y =>
          rw [rd_some (b' := y.1) (q' := y.2) hc hs] at h
          have hl := step_len (b' := y.1) (q' := y.2) hs
          rw [List.cons_append, rd_some hc (step_more (u := u) hs)]
          exact ih y.2.length (by simp at hn; omega) h rfl

/-- no shorter part of what is written is a program -/
theorem prog_prefix {l : List Op} {s : Bs} (hs : ofL .empty l = some s) {i : Nat} (hi : i < (prog l).length) : rd .empty ((prog l).take i) = none := by
  obtain ⟨b, hb, _⟩ := prog_says hs
  cases h : rd .empty ((prog l).take i) with
  | none => rfl
  | some r =>
    have h2 := rd_prefix (u := (prog l).drop i) h (by
      intro e
      have := congrArg List.length e
      simp at this
      omega)
    rw [List.take_append_drop, hb] at h2
    cases h2

end Go.Proofs.Ytnkkpdpjkfjmnaa.Pu
