import Derived.Test.YbulkazncUniq
namespace Go.Proofs.Ybulkaznc
open Go.RowKit Go.Sort
set_option linter.unusedVariables false

/-- A slice of strings of the call's own that holds L: where it has an element it owns its row. -/
def Hold (base : Nat) (w : World) (a : Option Addr) (c : Nat) (L : List (List UInt8)) : Prop :=
  0 < L.length → ∃ g, a = some ⟨g, 0, none⟩ ∧ w.ownsRow base 9 1 (.slice (some ⟨g, 0, none⟩) L.length c) L.length (L.map encStr)

theorem clone_u (a : Option Addr) (b o n c : Nat) (S : Nat → ByteArray) (w : World) (hn : n ≤ 1024) (ha : 0 < n → a = some ⟨b, o, none⟩) (hc : ∀ j, j < n → w.cell? ⟨b, o + j, none⟩ = some (.string (S j))) :
    Calls Yba.prog 8 #[.slice a n c] w fun e w' => ∃ a1 c1, e = .returned (.slice a1 n c1) ∧ Hold w.heap.size w' a1 c1 ((List.range n).map fun j => (S j).data.toList) ∧ Below w.heap.size w w' := by
  by_cases h0 : n = 0
  · subst h0
    cases a with
    | none =>
      refine (Yba.slices_Clone_string_nil 0 c w).mono ?_
      rintro e w' ⟨rfl, rfl⟩
      exact ⟨none, 0, rfl, fun h => by simp at h, Below.refl _ _⟩
    | some x =>
      refine (Yba.slices_Clone_string_zero x c w).mono ?_
      rintro e w' ⟨v', rfl, hown, hnn, hbel⟩
      obtain ⟨a1, c1, hv⟩ := own_shape hown
      exact ⟨a1, c1, by rw [hv], fun h => by simp at h, hbel⟩
  · obtain rfl := ha (by omega)
    refine (Yba.slices_Clone_string b o n c ((List.range n).map S) w (by simp) (by omega) (fun j hj => ?_)).mono ?_
    · have hj' : j < n := by simpa using hj
      rw [hc j hj']
      simp [List.getD, hj']
    · rintro e w' ⟨v', rfl, hown, hnn, hbel⟩
      have hl : ((List.range n).map S).take n = (List.range n).map S := List.take_of_length_le (by simp)
      rw [hl, ← Lib.map_encStr] at hown
      have hlen : ((List.range n).map ((fun x : ByteArray => x.data.toList) ∘ S)).length = n := by simp
      obtain ⟨g, cap, rfl, hbg, hgl, hncap, hcm, _, hH⟩ := Lib.holds_of_ownsRow hown hnn
      refine ⟨some ⟨g, 0, none⟩, cap, rfl, fun _ => ⟨g, rfl, ?_⟩, hbel⟩
      have e1 : ((List.range n).map fun j => (S j).data.toList) = (List.range n).map ((fun x : ByteArray => x.data.toList) ∘ S) := rfl
      rw [e1, hlen, ← List.map_map]
      exact hown

theorem sort_u (base : Nat) (a : Option Addr) (c : Nat) (L : List (List UInt8)) (w : World) (hL : L.length ≤ 1024) (hb : base ≤ w.heap.size) (h : Hold base w a c L) :
    Calls Yba.prog 9 #[.slice a L.length c] w fun e w' => e = .returned (.tuple #[]) ∧ Hold base w' a c (L.mergeSort fun x y => decide (x ≤ y)) ∧ Below base w w' := by
  have hlm : (L.mergeSort fun x y => decide (x ≤ y)).length = L.length := List.length_mergeSort L
  by_cases h0 : L.length = 0
  · rw [h0]
    refine (Yba.slices_Sort_string_none a c w).mono ?_
    rintro e w' ⟨rfl, rfl⟩
    exact ⟨rfl, fun h => by omega, Below.refl _ _⟩
  · obtain ⟨g, rfl, hown⟩ := h (by omega)
    rcases hown.2 with ⟨e0, _⟩ | ⟨g', cap', cur, hv, hbase, hblk, h1, h2, h3, h4⟩
    · cases e0
    cases hv
    have hH : Holds encStr w g 0 L.toArray := holds_of_block hblk (by simpa using h4)
    refine (Yba.slices_Sort_string g 0 c L w hH (Array.getElem?_eq_some_iff.1 hblk).1 (by omega)).mono ?_
    rintro e w' ⟨rfl, nn, os, rfl⟩
    have hs := ownsRow_sorted (n := nn) (os := os) (ts := L.mergeSort fun x y => decide (x ≤ y)) hlm hbase hblk h1 h2 h3
    refine ⟨rfl, fun _ => ⟨g, rfl, by rw [hlm]; exact hs⟩, ?_⟩
    exact (Below.refl _ _).grown (grownBy_sorted _) hb (fun k hk => by cases hk; exact hbase)

theorem compact_u (base : Nat) (a : Option Addr) (c : Nat) (L : List (List UInt8)) (w : World) (hL : L.length ≤ 1024) (hb : base ≤ w.heap.size) (h : Hold base w a c L) :
    Calls Yba.prog 10 #[.slice a L.length c] w fun e w' => e = .returned (.slice a (Lib.compact L).length c) ∧ Hold base w' a c (Lib.compact L) ∧ Below base w w' := by
  have hle := Lib.compact_length_le L
  by_cases h0 : L.length = 0
  · have h1 : (Lib.compact L).length = 0 := by omega
    rw [h0, h1]
    refine (Yba.slices_Compact_string_empty a c w).mono ?_
    rintro e w' ⟨rfl, rfl⟩
    exact ⟨rfl, fun h => by omega, Below.refl _ _⟩
  · obtain ⟨g, rfl, hown⟩ := h (by omega)
    rcases hown.2 with ⟨e0, _⟩ | ⟨g', cap', cur, hv, hbase, hblk, h1, h2, h3, h4⟩
    · cases e0
    cases hv
    have hH : Holds encStr w g 0 L.toArray := holds_of_block hblk (by simpa using h4)
    refine (Yba.slices_Compact_string g 0 c L w hH (by omega) h1).mono ?_
    rintro e w' ⟨rfl, q, rfl⟩
    have hc := Lib.ownsRow_putRow (q := q) (k := (Lib.compact L).length) (ys := Lib.compact L ++ List.replicate (L.length - (Lib.compact L).length) []) hown (by simp; omega) (by omega)
    rw [List.take_left] at hc
    exact ⟨rfl, fun _ => ⟨g, rfl, hc⟩, Lib.below_putRow (Below.refl _ _) hbase⟩

end Go.Proofs.Ybulkaznc
