import Derived.Test.YbulkazncShelf
import Derived.Test.YbulkazncLaw3
import Derived.Sort.OwnSorted
import Derived.Lib.OwnBridge
import Derived.Lib.SlicesCompact
namespace Go.Proofs.Ybulkaznc
open Go.RowKit Go.Sort
set_option linter.unusedVariables false

/-! ### The order -/
theorem bl_eq : ∀ (x y : List UInt8), Op.bytesLess x y = decide (x < y)
  | [], [] => by simp [Op.bytesLess]
  | _ :: _, [] => by simp [Op.bytesLess]
  | [], _ :: _ => by simp [Op.bytesLess]
  | a :: x, b :: y => by
    rw [Op.bytesLess, bl_eq x y]
    simp only [List.cons_lt_cons_iff]
    by_cases h1 : a < b <;> by_cases h2 : a = b <;> by_cases h3 : x < y <;> simp [h1, h2, h3]

theorem lt_of_le_ne {x y : List UInt8} (h : x ≤ y) (hn : x ≠ y) : x < y := by
  apply Classical.byContradiction
  intro h'
  exact hn (List.le_antisymm h (List.not_lt.1 h'))

/-- The strings sorted, each run cut to one. -/
def uniq (L : List (List UInt8)) : List (List UInt8) := Lib.compact (L.mergeSort fun x y => decide (x ≤ y))

theorem sorted_ms (ss : List (List UInt8)) : (ss.mergeSort fun x y => decide (x ≤ y)).Pairwise (fun x y => x ≤ y) := by
  have := List.pairwise_mergeSort (le := fun (x y : List UInt8) => decide (x ≤ y)) (fun a b c h1 h2 => by simp at *; exact List.le_trans h1 h2) (fun a b => by simp; exact List.le_total a b) ss
  simpa using this

theorem compact_asc (zs : List (List UInt8)) (hz : zs.Pairwise (fun x y => x ≤ y)) : (Lib.compact zs).Pairwise (fun x y => x < y) := by
  have hget := List.pairwise_iff_getElem.1 hz
  have hle : ∀ i j, i ≤ j → j < zs.length → zs.toArray[i]! ≤ zs.toArray[j]! := by
    intro i j hij hj
    rw [getElem!_pos zs.toArray i (by simp; omega), getElem!_pos zs.toArray j (by simpa using hj)]
    rcases Nat.lt_or_ge i j with h | h
    · simpa using hget i j (by omega) hj h
    · have : i = j := by omega
      subst this
      exact List.le_refl _
  unfold Lib.compact Lib.compactUpTo
  rw [List.pairwise_map]
  have h1 := (List.pairwise_lt_range (n := zs.length)).filter (Lib.keeps zs.toArray)
  refine List.Pairwise.imp_of_mem (fun {a b} _ hb hab => ?_) h1
  obtain ⟨hbr, hbk⟩ := List.mem_filter.1 hb
  have hbl : b < zs.length := List.mem_range.1 hbr
  have hne : zs.toArray[b]! ≠ zs.toArray[b - 1]! := by
    have := of_decide_eq_true hbk
    rcases this with h | h
    · omega
    · exact h
  have h2 := hle a (b - 1) (by omega) (by omega)
  have h3 := hle (b - 1) b (by omega) hbl
  exact List.lt_of_le_of_lt h2 (lt_of_le_ne h3 (Ne.symm hne))

theorem uniq_asc (L : List (List UInt8)) : (uniq L).Pairwise (fun x y => x < y) := compact_asc _ (sorted_ms L)

theorem mem_compact {zs : List (List UInt8)} {x : List UInt8} (h : x ∈ Lib.compact zs) : x ∈ zs := by
  unfold Lib.compact Lib.compactUpTo at h
  obtain ⟨i, hi, rfl⟩ := List.mem_map.1 h
  have hi' : i < zs.length := List.mem_range.1 (List.mem_filter.1 hi).1
  simp [getElem!_pos, hi']

theorem mem_uniq {L : List (List UInt8)} {x : List UInt8} (h : x ∈ uniq L) : x ∈ L := (List.mergeSort_perm L _).subset (mem_compact h)

theorem uniq_length_le (L : List (List UInt8)) : (uniq L).length ≤ L.length := by
  have h1 := Lib.compact_length_le (L.mergeSort fun x y => decide (x ≤ y))
  have h2 : (L.mergeSort fun x y => decide (x ≤ y)).length = L.length := List.length_mergeSort L
  unfold uniq
  omega

/-- The j-th string. -/
def strAt (L : List (List UInt8)) (j : Nat) : ByteArray := ⟨(L.getD j []).toArray⟩

theorem strAt_less (L : List (List UInt8)) (i j : Nat) (hi : i < (uniq L).length) (hj : j < (uniq L).length) : Op.bytesLess (strAt (uniq L) j).toList (strAt (uniq L) i).toList = decide (j < i) := by
  have hp := List.pairwise_iff_getElem.1 (uniq_asc L)
  have e : ∀ k (hk : k < (uniq L).length), (strAt (uniq L) k).toList = (uniq L)[k] := by
    intro k hk
    rw [Lib.toList_data]
    simp [strAt, List.getD, List.getElem?_eq_getElem hk]
  rw [e i hi, e j hj, bl_eq]
  rcases Nat.lt_trichotomy j i with h | h | h
  · rw [decide_eq_true h, decide_eq_true (hp j i hj hi h)]
  · subst h
    simp [List.lt_irrefl]
  · rw [decide_eq_false (show ¬ j < i by omega), decide_eq_false (fun h' => List.lt_asymm h' (hp i j hi hj h))]

theorem strAt_size (L : List (List UInt8)) (M : Nat) (h : ∀ x ∈ L, x.length ≤ M) (j : Nat) (hj : j < (uniq L).length) : (strAt (uniq L) j).size ≤ M := by
  have : (strAt (uniq L) j).size = (uniq L)[j].length := by simp [strAt, ByteArray.size, List.getD, List.getElem?_eq_getElem hj]
  rw [this]
  exact h _ (mem_uniq (List.getElem_mem hj))

end Go.Proofs.Ybulkaznc
