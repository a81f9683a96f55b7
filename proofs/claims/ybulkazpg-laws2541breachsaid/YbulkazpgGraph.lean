import Derived.Below
namespace Go.Proofs.Ybulkazpg
set_option linter.unusedVariables false

/-! ### Reachability from node 0 in a graph of n nodes: row i has L i entries, entry k leads to E i k -/
def Clo (n : Nat) (L : Nat → Nat) (E : Nat → Nat → Nat) (P : Nat → Prop) : Prop := ∀ i, i < n → P i → ∀ k, k < L i → P (E i k)
def Rch (n : Nat) (L : Nat → Nat) (E : Nat → Nat → Nat) (i : Nat) : Prop := ∀ P : Nat → Prop, Clo n L E P → P 0 → P i
def cnt (R : Nat → Bool) (n : Nat) : Nat := ((List.range n).filter R).length
def mark (R : Nat → Bool) (j : Nat) : Nat → Bool := fun i => if i = j then true else R i

theorem mark_self (R : Nat → Bool) (j : Nat) : mark R j j = true := by simp [mark]
theorem mark_old (R : Nat → Bool) (j i : Nat) (h : R i = true) : mark R j i = true := by simp [mark, h]
theorem mark_cases {R : Nat → Bool} {j i : Nat} (h : mark R j i = true) : i = j ∨ R i = true := by
  unfold mark at h
  split at h
  · exact .inl ‹_›
  · exact .inr h

theorem cnt_succ (R : Nat → Bool) (n : Nat) : cnt R (n + 1) = cnt R n + if R n = true then 1 else 0 := by
  unfold cnt
  rw [List.range_succ, List.filter_append, List.length_append]
  by_cases h : R n = true <;> simp [h]

theorem cnt_le (R : Nat → Bool) : ∀ n, cnt R n ≤ n
  | 0 => by simp [cnt]
  | n + 1 => by
    rw [cnt_succ]
    have := cnt_le R n
    split <;> omega

theorem cnt_mono (R R' : Nat → Bool) : ∀ n, (∀ i, i < n → R i = true → R' i = true) → cnt R n ≤ cnt R' n
  | 0, _ => by simp [cnt]
  | n + 1, h => by
    have ih := cnt_mono R R' n (fun i hi => h i (by omega))
    have hn := h n (by omega)
    rw [cnt_succ, cnt_succ]
    split <;> split <;> first | omega | (exfalso; simp_all)

theorem cnt_strict (R R' : Nat → Bool) : ∀ n, (∀ i, i < n → R i = true → R' i = true) → (∃ i, i < n ∧ R' i = true ∧ R i = false) → cnt R n < cnt R' n
  | 0, _, ⟨i, hi, _⟩ => by omega
  | n + 1, h, ⟨i, hi, h1, h2⟩ => by
    have hm := cnt_mono R R' n (fun j hj => h j (by omega))
    have hn := h n (by omega)
    rw [cnt_succ, cnt_succ]
    rcases Nat.lt_or_ge i n with hlt | hge
    · have ih := cnt_strict R R' n (fun j hj => h j (by omega)) ⟨i, hlt, h1, h2⟩
      split <;> split <;> first | omega | (exfalso; simp_all)
    · have : i = n := by omega
      subst this
      simp only [h1, h2, if_true]
      simp
      omega

theorem cnt_full (R : Nat → Bool) : ∀ n, cnt R n = n ↔ ∀ i, i < n → R i = true
  | 0 => by simp [cnt]
  | n + 1 => by
    have ih := cnt_full R n
    have hle := cnt_le R n
    rw [cnt_succ]
    constructor
    · intro h i hi
      by_cases hr : R n = true
      · rw [if_pos hr] at h
        rcases Nat.lt_or_ge i n with hlt | hge
        · exact ih.1 (by omega) i hlt
        · have : i = n := by omega
          subst this; exact hr
      · rw [if_neg hr] at h
        omega
    · intro h
      rw [if_pos (h n (by omega)), ih.2 (fun i hi => h i (by omega))]

theorem cnt_mark (R : Nat → Bool) (j : Nat) (hj : R j = false) : ∀ n, j < n → cnt (mark R j) n = cnt R n + 1
  | 0, h => by omega
  | n + 1, h => by
    rw [cnt_succ, cnt_succ]
    rcases Nat.lt_or_ge j n with hlt | hge
    · rw [cnt_mark R j hj n hlt]
      have : mark R j n = R n := by simp [mark, show n ≠ j by omega]
      rw [this]; omega
    · have : j = n := by omega
      subst this
      have hsame : cnt (mark R j) j = cnt R j := by
        unfold cnt
        congr 1
        apply List.filter_congr
        intro i hi
        have := List.mem_range.1 hi
        simp [mark, show i ≠ j by omega]
      rw [hsame, mark_self, hj]
      simp

/-! ### The search with a stack -/
structure CInv (n : Nat) (L : Nat → Nat) (E : Nat → Nat → Nat) (R : Nat → Bool) (st : List Nat) (c : Nat) : Prop where
  zero : R 0 = true
  sound : ∀ P, Clo n L E P → P 0 → ∀ i, i < n → R i = true → P i
  stack : ∀ j, j ∈ st → j < n ∧ R j = true
  closed : ∀ i, i < n → R i = true → i ∈ st ∨ ∀ k, k < L i → R (E i k) = true
  count : c = cnt R n

structure CMid (n : Nat) (L : Nat → Nat) (E : Nat → Nat → Nat) (R : Nat → Bool) (st : List Nat) (c i k : Nat) : Prop where
  zero : R 0 = true
  sound : ∀ P, Clo n L E P → P 0 → ∀ i, i < n → R i = true → P i
  stack : ∀ j, j ∈ st → j < n ∧ R j = true
  here : i < n ∧ R i = true
  closed : ∀ j, j < n → R j = true → j ∈ st ∨ j = i ∨ ∀ k, k < L j → R (E j k) = true
  done : ∀ t, t < k → R (E i t) = true
  count : c = cnt R n

theorem CInv.start (n : Nat) (L : Nat → Nat) (E : Nat → Nat → Nat) (hn : 0 < n) : CInv n L E (mark (fun _ => false) 0) [0] 1 := by
  refine ⟨mark_self _ _, fun P _ h0 i hi hr => ?_, fun j hj => ?_, fun i hi hr => ?_, ?_⟩
  · rcases mark_cases hr with h | h
    · subst h; exact h0
    · cases h
  · simp at hj; subst hj; exact ⟨hn, mark_self _ _⟩
  · rcases mark_cases hr with h | h
    · subst h; simp
    · cases h
  · rw [cnt_mark _ 0 rfl n hn]; simp [cnt]

theorem CInv.pop {n : Nat} {L : Nat → Nat} {E : Nat → Nat → Nat} {R : Nat → Bool} {st : List Nat} {c i : Nat} (h : CInv n L E R (st ++ [i]) c) : CMid n L E R st c i 0 := by
  refine ⟨h.zero, h.sound, fun j hj => h.stack j (List.mem_append_left _ hj), h.stack i (by simp), fun j hj hr => ?_, fun t ht => by omega, h.count⟩
  rcases h.closed j hj hr with h1 | h1
  · rcases List.mem_append.1 h1 with h2 | h2
    · exact .inl h2
    · simp at h2; exact .inr (.inl h2)
  · exact .inr (.inr h1)

theorem CMid.seen {n : Nat} {L : Nat → Nat} {E : Nat → Nat → Nat} {R : Nat → Bool} {st : List Nat} {c i k : Nat} (h : CMid n L E R st c i k) (hr : R (E i k) = true) : CMid n L E R st c i (k + 1) := by
  refine ⟨h.zero, h.sound, h.stack, h.here, h.closed, fun t ht => ?_, h.count⟩
  rcases Nat.lt_or_ge t k with h1 | h1
  · exact h.done t h1
  · have : t = k := by omega
    subst this; exact hr

theorem CMid.fresh {n : Nat} {L : Nat → Nat} {E : Nat → Nat → Nat} {R : Nat → Bool} {st : List Nat} {c i k : Nat} (h : CMid n L E R st c i k) (hk : k < L i) (hE : E i k < n) (hr : R (E i k) = false) :
    CMid n L E (mark R (E i k)) (st ++ [E i k]) (c + 1) i (k + 1) := by
  refine ⟨mark_old _ _ _ h.zero, fun P hP h0 j hj hm => ?_, fun j hj => ?_, ⟨h.here.1, mark_old _ _ _ h.here.2⟩, fun j hj hm => ?_, fun t ht => ?_, ?_⟩
  · rcases mark_cases hm with h1 | h1
    · subst h1
      exact hP i h.here.1 (h.sound P hP h0 i h.here.1 h.here.2) k hk
    · exact h.sound P hP h0 j hj h1
  · rcases List.mem_append.1 hj with h1 | h1
    · exact ⟨(h.stack j h1).1, mark_old _ _ _ (h.stack j h1).2⟩
    · simp at h1; subst h1; exact ⟨hE, mark_self _ _⟩
  · rcases mark_cases hm with h1 | h1
    · subst h1; exact .inl (by simp)
    · rcases h.closed j hj h1 with h2 | h2 | h2
      · exact .inl (List.mem_append_left _ h2)
      · exact .inr (.inl h2)
      · exact .inr (.inr fun t ht => mark_old _ _ _ (h2 t ht))
  · rcases Nat.lt_or_ge t k with h1 | h1
    · exact mark_old _ _ _ (h.done t h1)
    · have : t = k := by omega
      subst this; exact mark_self _ _
  · rw [cnt_mark R _ hr n hE, h.count]

theorem CMid.finish {n : Nat} {L : Nat → Nat} {E : Nat → Nat → Nat} {R : Nat → Bool} {st : List Nat} {c i : Nat} (h : CMid n L E R st c i (L i)) : CInv n L E R st c := by
  refine ⟨h.zero, h.sound, h.stack, fun j hj hr => ?_, h.count⟩
  rcases h.closed j hj hr with h1 | h1 | h1
  · exact .inl h1
  · subst h1; exact .inr h.done
  · exact .inr h1

/-- A set that holds 0, is sound and closed is what is reached. -/
theorem reach_iff {n : Nat} {L : Nat → Nat} {E : Nat → Nat → Nat} {R : Nat → Bool} (hE : ∀ i k, i < n → k < L i → E i k < n) (h0 : R 0 = true) (hs : ∀ P, Clo n L E P → P 0 → ∀ i, i < n → R i = true → P i)
    (hc : ∀ i, i < n → R i = true → ∀ k, k < L i → R (E i k) = true) : (∀ i, i < n → R i = true) ↔ ∀ i, i < n → Rch n L E i := by
  constructor
  · intro h i hi P hP hP0
    exact hs P hP hP0 i hi (h i hi)
  · intro h i hi
    exact h i hi (fun j => R j = true) hc h0

theorem CInv.answer {n : Nat} {L : Nat → Nat} {E : Nat → Nat → Nat} {R : Nat → Bool} {c : Nat} (h : CInv n L E R [] c) (hE : ∀ i k, i < n → k < L i → E i k < n) : c = n ↔ ∀ i, i < n → Rch n L E i := by
  rw [h.count, cnt_full]
  exact reach_iff hE h.zero h.sound (fun i hi hr => (h.closed i hi hr).resolve_left (by simp))

/-! ### The rounds of relaxation -/
structure RInv (n : Nat) (L : Nat → Nat) (E : Nat → Nat → Nat) (R : Nat → Bool) (t : Nat) : Prop where
  zero : R 0 = true
  sound : ∀ P, Clo n L E P → P 0 → ∀ i, i < n → R i = true → P i
  grows : Clo n L E (fun i => R i = true) ∨ t + 1 ≤ cnt R n

/-- Inside a round that began at R0: nodes below i have handed on; of node i the first k entries, where it is reached. -/
structure RMid (n : Nat) (L : Nat → Nat) (E : Nat → Nat → Nat) (R0 R : Nat → Bool) (i k : Nat) : Prop where
  old : ∀ j, j < n → R0 j = true → R j = true
  zero : R 0 = true
  sound : ∀ P, Clo n L E P → (∀ j, j < n → R0 j = true → P j) → ∀ j, j < n → R j = true → P j
  past : ∀ j, j < i → R0 j = true → ∀ t, t < L j → R (E j t) = true
  part : ∀ t, t < k → R (E i t) = true

theorem RMid.start {n : Nat} {L : Nat → Nat} {E : Nat → Nat → Nat} {R : Nat → Bool} {t : Nat} (h : RInv n L E R t) : RMid n L E R R 0 0 :=
  ⟨fun _ _ h => h, h.zero, fun _ _ hP j hj hr => hP j hj hr, fun j hj => by omega, fun t ht => by omega⟩

theorem RMid.next {n : Nat} {L : Nat → Nat} {E : Nat → Nat → Nat} {R0 R : Nat → Bool} {i k : Nat} (h : RMid n L E R0 R i k) (hi : i < n) (hr : R i = true) (hk : k < L i) (hE : E i k < n) : RMid n L E R0 (mark R (E i k)) i (k + 1) := by
  refine ⟨fun j hj hr => mark_old _ _ _ (h.old j hj hr), mark_old _ _ _ h.zero, fun P hP h0 j hj hm => ?_, fun j hj hr t ht => mark_old _ _ _ (h.past j hj hr t ht), fun t ht => ?_⟩
  · rcases mark_cases hm with h1 | h1
    · subst h1; exact hP i hi (h.sound P hP h0 i hi hr) k hk
    · exact h.sound P hP h0 j hj h1
  · rcases Nat.lt_or_ge t k with h1 | h1
    · exact mark_old _ _ _ (h.part t h1)
    · have : t = k := by omega
      subst this; exact mark_self _ _

theorem RMid.skip {n : Nat} {L : Nat → Nat} {E : Nat → Nat → Nat} {R0 R : Nat → Bool} {i : Nat} (h : RMid n L E R0 R i 0) (hi : i < n) (hr : R i = false) : RMid n L E R0 R (i + 1) 0 := by
  refine ⟨h.old, h.zero, h.sound, fun j hj hr0 t ht => ?_, fun t ht => by omega⟩
  rcases Nat.lt_or_ge j i with h1 | h1
  · exact h.past j h1 hr0 t ht
  · have : j = i := by omega
    subst this
    rw [h.old j hi hr0] at hr; cases hr

theorem RMid.over {n : Nat} {L : Nat → Nat} {E : Nat → Nat → Nat} {R0 R : Nat → Bool} {i : Nat} (h : RMid n L E R0 R i (L i)) : RMid n L E R0 R (i + 1) 0 := by
  refine ⟨h.old, h.zero, h.sound, fun j hj hr0 t ht => ?_, fun t ht => by omega⟩
  rcases Nat.lt_or_ge j i with h1 | h1
  · exact h.past j h1 hr0 t ht
  · have : j = i := by omega
    subst this
    exact h.part t ht

theorem RMid.round {n : Nat} {L : Nat → Nat} {E : Nat → Nat → Nat} {R0 R : Nat → Bool} {t : Nat} (h0 : RInv n L E R0 t) (h : RMid n L E R0 R n 0) (hE : ∀ i k, i < n → k < L i → E i k < n) : RInv n L E R (t + 1) := by
  refine ⟨h.zero, fun P hP hP0 i hi hr => h.sound P hP (fun j hj hr => h0.sound P hP hP0 j hj hr) i hi hr, ?_⟩
  by_cases hsame : ∀ i, i < n → R i = true → R0 i = true
  · left
    intro i hi hr k hk
    exact h.past i hi (hsame i hi hr) k hk
  · right
    have hne : ∃ i, i < n ∧ R i = true ∧ R0 i = false := by
      apply Classical.byContradiction
      intro hno
      apply hsame
      intro i hi hr
      cases h1 : R0 i with
      | true => rfl
      | false => exact absurd ⟨i, hi, hr, h1⟩ hno
    have hlt := cnt_strict R0 R n h.old hne
    rcases h0.grows with hcl | hg
    · obtain ⟨i, hi, h1, h2⟩ := hne
      have := h.sound (fun j => R0 j = true) hcl (fun j _ hr => hr) i hi h1
      simp [h2] at this
    · omega

theorem RInv.start (n : Nat) (L : Nat → Nat) (E : Nat → Nat → Nat) (hn : 0 < n) : RInv n L E (mark (fun _ => false) 0) 0 := by
  refine ⟨mark_self _ _, fun P _ h0 i hi hr => ?_, .inr ?_⟩
  · rcases mark_cases hr with h | h
    · subst h; exact h0
    · cases h
  · rw [cnt_mark _ 0 rfl n hn]; omega

theorem RInv.answer {n : Nat} {L : Nat → Nat} {E : Nat → Nat → Nat} {R : Nat → Bool} (h : RInv n L E R n) (hE : ∀ i k, i < n → k < L i → E i k < n) : (∀ i, i < n → R i = true) ↔ ∀ i, i < n → Rch n L E i := by
  rcases h.grows with hcl | hg
  · exact reach_iff hE h.zero h.sound hcl
  · have := cnt_le R n
    omega

end Go.Proofs.Ybulkazpg
