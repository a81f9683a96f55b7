import Derived.Below
namespace Go.Proofs.Ybulkazoe
set_option linter.unusedVariables false

/-! ### The next node of the same class -/
def nx (c : Nat → Nat) (n u : Nat) : Int :=
  match (List.range n).find? (fun w => decide (u < w) && c w == c u) with
  | some w => (w : Int)
  | none => -1

theorem nx_some (c : Nat → Nat) (n u w : Nat) (h1 : u < w) (h2 : w < n) (h3 : c w = c u) (h4 : ∀ v, u < v → v < w → c v ≠ c u) : nx c n u = (w : Int) := by
  have hf : (List.range n).find? (fun w => decide (u < w) && c w == c u) = some w := by
    rw [List.find?_range_eq_some]
    refine ⟨by simp [h1, h3], by simpa using h2, fun j hj => ?_⟩
    by_cases huj : u < j
    · have := h4 j huj hj
      simp [huj, this]
    · simp [huj]
  unfold nx
  rw [hf]

theorem nx_none (c : Nat → Nat) (n u : Nat) (h : ∀ v, u < v → v < n → c v ≠ c u) : nx c n u = -1 := by
  have hf : (List.range n).find? (fun w => decide (u < w) && c w == c u) = none := by
    rw [List.find?_range_eq_none]
    intro j hj
    by_cases huj : u < j
    · have := h j huj hj
      simp [huj, this]
    · simp [huj]
  unfold nx
  rw [hf]

theorem nx_lt (c : Nat → Nat) (n u : Nat) : nx c n u = -1 ∨ (0 ≤ nx c n u ∧ nx c n u < (n : Int)) := by
  unfold nx
  cases hf : (List.range n).find? (fun w => decide (u < w) && c w == c u) with
  | none => exact .inl rfl
  | some w =>
    have := List.mem_range.1 (List.mem_of_find?_eq_some hf)
    exact .inr ⟨by simp, by simp; omega⟩

/-! ### Chains -/
def chn (c : Nat → Nat) (j k : Nat) : List Nat := (List.range k).filter fun u => c u == j

theorem chn_yes (c : Nat → Nat) (j k : Nat) (h : c k = j) : chn c j (k + 1) = chn c j k ++ [k] := by simp [chn, List.range_succ, List.filter_append, h]
theorem chn_no (c : Nat → Nat) (j k : Nat) (h : c k ≠ j) : chn c j (k + 1) = chn c j k := by simp [chn, List.range_succ, List.filter_append, h]
theorem chn_le (c : Nat → Nat) (j k : Nat) : (chn c j k).length ≤ k := by
  have := List.length_filter_le (fun u => c u == j) (List.range k)
  simpa [chn] using this
theorem chn_mem (c : Nat → Nat) (j n u : Nat) : u ∈ chn c j n ↔ u < n ∧ c u = j := by simp [chn, List.mem_filter]

theorem chn_lt (c : Nat → Nat) (j n : Nat) : ∀ a b, a < b → b < (chn c j n).length → (chn c j n).getD a 0 < (chn c j n).getD b 0 := by
  intro a b hab hb
  have hp : (chn c j n).Pairwise (fun x y => x < y) := (List.pairwise_lt_range (n := n)).filter _
  have := List.pairwise_iff_getElem.1 hp a b (by omega) hb hab
  simpa [List.getD, List.getElem?_eq_getElem (show a < (chn c j n).length by omega), List.getElem?_eq_getElem hb] using this

theorem chn_at (c : Nat → Nat) (j n i : Nat) (hi : i < (chn c j n).length) : (chn c j n).getD i 0 < n ∧ c ((chn c j n).getD i 0) = j := by
  have : (chn c j n).getD i 0 ∈ chn c j n := by simp [List.getD, List.getElem?_eq_getElem hi]
  exact (chn_mem c j n _).1 this

theorem chn_idx (c : Nat → Nat) (j n u : Nat) (h : u < n) (hc : c u = j) : ∃ i, i < (chn c j n).length ∧ (chn c j n).getD i 0 = u := by
  obtain ⟨i, hi, he⟩ := List.getElem_of_mem ((chn_mem c j n u).2 ⟨h, hc⟩)
  exact ⟨i, hi, by simp [List.getD, List.getElem?_eq_getElem hi, he]⟩

theorem chn_inj (c : Nat → Nat) (j n a b : Nat) (ha : a < (chn c j n).length) (hb : b < (chn c j n).length) (h : (chn c j n).getD a 0 = (chn c j n).getD b 0) : a = b := by
  rcases Nat.lt_trichotomy a b with h1 | h1 | h1
  · have := chn_lt c j n a b h1 hb; omega
  · exact h1
  · have := chn_lt c j n b a h1 ha; omega

theorem chn_next (c : Nat → Nat) (j n i : Nat) (hi : i + 1 < (chn c j n).length) : nx c n ((chn c j n).getD i 0) = ((chn c j n).getD (i + 1) 0 : Nat) := by
  have h0 := chn_at c j n i (by omega)
  have h1 := chn_at c j n (i + 1) hi
  refine nx_some c n _ _ (chn_lt c j n i (i + 1) (by omega) hi) h1.1 (by omega) (fun v hv1 hv2 hc => ?_)
  obtain ⟨m, hm, he⟩ := chn_idx c j n v (by omega) (by omega)
  rcases Nat.lt_or_ge i m with h2 | h2
  · rcases Nat.lt_or_ge m (i + 1) with h3 | h3
    · omega
    · rcases Nat.lt_or_ge (i + 1) m with h4 | h4
      · have := chn_lt c j n (i + 1) m h4 hm; omega
      · have : m = i + 1 := by omega
        subst this; omega
  · rcases Nat.lt_or_ge m i with h4 | h4
    · have := chn_lt c j n m i h4 (by omega); omega
    · have : m = i := by omega
      subst this; omega

theorem chn_last (c : Nat → Nat) (j n i : Nat) (hi : i + 1 = (chn c j n).length) : nx c n ((chn c j n).getD i 0) = -1 := by
  have h0 := chn_at c j n i (by omega)
  refine nx_none c n _ (fun v hv1 hv2 hc => ?_)
  obtain ⟨m, hm, he⟩ := chn_idx c j n v hv2 (by omega)
  rcases Nat.lt_or_ge m i with h4 | h4
  · have := chn_lt c j n m i h4 (by omega); omega
  · have : m = i := by omega
    subst this; omega

/-! ### What the two loops over the chains make of chainNext -/
def upd (f : Nat → Int) (a : Nat) (v : Int) : Nat → Int := fun x => if x = a then v else f x

structure CS (c : Nat → Nat) (n j k : Nat) (f : Nat → Int) : Prop where
  lo : ∀ u, u < n → c u < j → f u = nx c n u
  hi : ∀ u, u < n → j < c u → f u = -1
  done : ∀ i, i < (chn c j n).length → i + 1 < k → f ((chn c j n).getD i 0) = nx c n ((chn c j n).getD i 0)
  todo : ∀ i, i < (chn c j n).length → k ≤ i + 1 → f ((chn c j n).getD i 0) = -1

theorem CS.start (c : Nat → Nat) (n : Nat) : CS c n 0 1 (fun _ => -1) :=
  ⟨fun u _ h => by omega, fun u _ _ => rfl, fun i _ h => by omega, fun i _ _ => rfl⟩

theorem CS.step {c : Nat → Nat} {n j k : Nat} {f : Nat → Int} (h : CS c n j k f) (hk : 1 ≤ k) (hl : k < (chn c j n).length) :
    CS c n j (k + 1) (upd f ((chn c j n).getD (k - 1) 0) ((chn c j n).getD k 0 : Nat)) := by
  have ha := chn_at c j n (k - 1) (by omega)
  refine ⟨fun u hu hc => ?_, fun u hu hc => ?_, fun i hi hik => ?_, fun i hi hik => ?_⟩
  · have : u ≠ (chn c j n).getD (k - 1) 0 := fun e => by rw [e] at hc; omega
    simp only [upd, if_neg this]; exact h.lo u hu hc
  · have : u ≠ (chn c j n).getD (k - 1) 0 := fun e => by rw [e] at hc; omega
    simp only [upd, if_neg this]; exact h.hi u hu hc
  · by_cases he : (chn c j n).getD i 0 = (chn c j n).getD (k - 1) 0
    · have hik' : i = k - 1 := chn_inj c j n i (k - 1) hi (by omega) he
      subst hik'
      have hn := chn_next c j n (k - 1) (by omega)
      rw [show k - 1 + 1 = k by omega] at hn
      simp only [upd, if_true, hn]
    · simp only [upd, if_neg he]
      refine h.done i hi ?_
      have : i ≠ k - 1 := fun e => he (by rw [e])
      omega
  · have he : (chn c j n).getD i 0 ≠ (chn c j n).getD (k - 1) 0 := fun e => by
      have := chn_inj c j n i (k - 1) hi (by omega) e; omega
    simp only [upd, if_neg he]
    exact h.todo i hi (by omega)

theorem CS.over {c : Nat → Nat} {n j k : Nat} {f : Nat → Int} (h : CS c n j k f) (hk : 1 ≤ k) (hl : (chn c j n).length ≤ k) : CS c n (j + 1) 1 f := by
  refine ⟨fun u hu hc => ?_, fun u hu hc => h.hi u hu (by omega), fun i _ hi => by omega, fun i hi _ => ?_⟩
  · rcases Nat.lt_or_ge (c u) j with h1 | h1
    · exact h.lo u hu h1
    · obtain ⟨i, hi, he⟩ := chn_idx c j n u hu (by omega)
      rcases Nat.lt_or_ge (i + 1) k with h2 | h2
      · have := h.done i hi h2; rw [he] at this; exact this
      · have h3 := h.todo i hi h2
        have h4 := chn_last c j n i (by omega)
        rw [he] at h3 h4
        rw [h3, h4]
  · have := chn_at c (j + 1) n i hi
    exact h.hi _ this.1 (by omega)

theorem CS.final {c : Nat → Nat} {n : Nat} {f : Nat → Int} (h : CS c n 3 1 f) (hc : ∀ u, u < n → c u < 3) : ∀ u, u < n → f u = nx c n u := fun u hu => h.lo u hu (hc u hu)

/-! ### The lists -/
def tl (x : Int) : List Int := if 0 ≤ x then [x] else []
def ex (A S : Nat → List Int) (N : Nat → Int) (u : Nat) : List Int := A u ++ S u ++ tl (N u)
def memTo (A S : Nat → List Int) (N : Nat → Int) : Nat → List Int
  | 0 => []
  | u + 1 => memTo A S N u ++ ex A S N u
def totTo (A S : Nat → List Int) : Nat → Nat
  | 0 => 0
  | u + 1 => totTo A S u + ((A u).length + (S u).length + 1)
def i64s (l : List Int) : List Value := l.map (Value.int .i64)

theorem tl_le (x : Int) : (tl x).length ≤ 1 := by unfold tl; split <;> simp
theorem mem_le (A S : Nat → List Int) (N : Nat → Int) : ∀ u, (memTo A S N u).length ≤ totTo A S u
  | 0 => by simp [memTo]
  | u + 1 => by
    have := mem_le A S N u
    have := tl_le (N u)
    simp only [memTo, totTo, ex, List.length_append]
    omega
theorem tot_mono (A S : Nat → List Int) {a b : Nat} (h : a ≤ b) : totTo A S a ≤ totTo A S b := by
  induction b with
  | zero => have : a = 0 := by omega
            subst this; exact Nat.le_refl _
  | succ b ih =>
    rcases Nat.lt_or_ge a (b + 1) with h' | h'
    · have := ih (by omega); simp only [totTo]; omega
    · have : a = b + 1 := by omega
      subst this; exact Nat.le_refl _
theorem tot_bound (A S : Nat → List Int) (M : Nat) : ∀ u, (∀ v, v < u → (A v).length ≤ M ∧ (S v).length ≤ M) → totTo A S u ≤ u * (2 * M + 1)
  | 0, _ => by simp [totTo]
  | u + 1, h => by
    have h1 := tot_bound A S M u (fun v hv => h v (by omega))
    have h2 := h u (by omega)
    simp only [totTo]
    rw [Nat.add_mul]
    omega
/-- Where list u lies in the memory of all. -/
theorem mem_at (A S : Nat → List Int) (N : Nat → Int) (n u k : Nat) (hu : u < n) (hk : k < (ex A S N u).length) : (memTo A S N n)[(memTo A S N u).length + k]? = some ((ex A S N u).getD k 0) := by
  induction n with
  | zero => omega
  | succ n ih =>
    simp only [memTo]
    rcases Nat.lt_or_ge u n with h | h
    · have h1 := ih h
      have hlt := (List.getElem?_eq_some_iff.1 h1).1
      rw [List.getElem?_append_left hlt]
      exact h1
    · have : u = n := by omega
      subst this
      rw [List.getElem?_append_right (by omega)]
      simp [List.getD, List.getElem?_eq_getElem hk]

theorem i64s_app (a b : List Int) : i64s (a ++ b) = i64s a ++ i64s b := by simp [i64s]
theorem i64s_at (l : List Int) (j : Nat) (h : j < l.length) : (i64s l)[j]? = some (.int .i64 (l.getD j 0)) := by simp [i64s, List.getD, List.getElem?_eq_getElem h]
theorem i64s_len (l : List Int) : (i64s l).length = l.length := by simp [i64s]
theorem i64s_one (l : List Int) : ∀ u ∈ i64s l, u.oneCell' = true := by
  intro u hu
  obtain ⟨_, _, rfl⟩ := List.mem_map.1 hu
  rfl

end Go.Proofs.Ybulkazoe
