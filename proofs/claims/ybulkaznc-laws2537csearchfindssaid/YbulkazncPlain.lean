import Derived.Lib.AppendStr
import Derived.Laws.BytesArg
import Derived.Laws.OwnMore
namespace Go.Proofs.Ybulkaznc

/-- Where the k-th string begins: the sum of the sizes before it. -/
def lenTo (S : Nat → ByteArray) : Nat → Nat
  | 0 => 0
  | k + 1 => lenTo S k + (S k).size

/-- The bytes of the first k strings, one after another. -/
def bytesTo (S : Nat → ByteArray) : Nat → List UInt8
  | 0 => []
  | k + 1 => bytesTo S k ++ (S k).data.toList

def u8s (l : List UInt8) : List Value := l.map fun b => Value.int .u8 b.toNat
def endsTo (S : Nat → ByteArray) (k : Nat) : List Value := (List.range k).map fun j => Value.int .i64 (lenTo S (j + 1))
def textOf (S : Nat → ByteArray) (k : Nat) : ByteArray := ⟨(bytesTo S k).toArray⟩

theorem bytesTo_length (S : Nat → ByteArray) : ∀ k, (bytesTo S k).length = lenTo S k
  | 0 => rfl
  | k + 1 => by
    rw [bytesTo, lenTo, List.length_append, bytesTo_length S k]
    congr 1

theorem u8s_succ (S : Nat → ByteArray) (k : Nat) : u8s (bytesTo S (k + 1)) = u8s (bytesTo S k) ++ Lib.strCells (S k) := by
  simp [u8s, bytesTo, Lib.strCells]

theorem endsTo_succ (S : Nat → ByteArray) (k : Nat) : endsTo S (k + 1) = endsTo S k ++ [Value.int .i64 (lenTo S (k + 1))] := by
  simp [endsTo, List.range_succ]

theorem textOf_size (S : Nat → ByteArray) (k : Nat) : (textOf S k).size = lenTo S k := by
  rw [← bytesTo_length]
  simp [textOf, ByteArray.size]

theorem lenTo_mono (S : Nat → ByteArray) {i j : Nat} (h : i ≤ j) : lenTo S i ≤ lenTo S j := by
  induction j with
  | zero => have : i = 0 := by omega
            subst this; exact Nat.le_refl _
  | succ j ih =>
    rcases Nat.lt_or_ge i (j + 1) with h' | h'
    · have := ih (by omega)
      rw [lenTo]; omega
    · have : i = j + 1 := by omega
      subst this; exact Nat.le_refl _

theorem lenTo_bound (S : Nat → ByteArray) (n : Nat) (hS : ∀ j, j < n → (S j).size ≤ 4096) : ∀ k, k ≤ n → lenTo S k ≤ 4096 * k
  | 0, _ => Nat.zero_le _
  | k + 1, h => by
    have h1 := lenTo_bound S n hS k (by omega)
    have h2 := hS k (by omega)
    rw [lenTo]; omega

/-- The bytes from where string i begins to where it ends are string i. -/
theorem bytes_slice (S : Nat → ByteArray) : ∀ (n i : Nat), i < n → ((bytesTo S n).drop (lenTo S i)).take ((S i).size) = (S i).data.toList
  | 0, i, h => by omega
  | n + 1, i, h => by
    rw [bytesTo]
    rcases Nat.lt_or_ge i n with h' | h'
    · have hl : lenTo S (i + 1) ≤ lenTo S n := lenTo_mono S (by omega)
      rw [lenTo] at hl
      have ih := bytes_slice S n i h'
      rw [List.drop_append_of_le_length (by rw [bytesTo_length]; omega), List.take_append_of_le_length (by rw [List.length_drop, bytesTo_length]; omega)]
      exact ih
    · have : i = n := by omega
      subst this
      rw [List.drop_append, bytesTo_length]
      rw [List.drop_eq_nil_of_le (by rw [bytesTo_length]; exact Nat.le_refl _)]
      simp
      exact List.take_of_length_le (by simp)

theorem text_extract (S : Nat → ByteArray) (n i : Nat) (h : i < n) : (textOf S n).extract (lenTo S i) (lenTo S (i + 1)) = S i := by
  have hb := bytes_slice S n i h
  apply ByteArray.ext
  apply Array.ext'
  rw [← hb]
  simp [textOf, lenTo, List.extract_eq_take_drop]

/-- An owned value is a slice of its length. -/
theorem own_shape {w : World} {base : Nat} {e : TypeId} {size : Nat} {v : Value} {n : Nat} {xs : List Value} (h : w.ownsRow base e size v n xs) : ∃ a c, v = .slice a n c := by
  rcases h.2 with ⟨rfl, rfl⟩ | ⟨g, cap, cur, rfl, _⟩
  · exact ⟨none, 0, rfl⟩
  · exact ⟨some ⟨g, 0, none⟩, cap, rfl⟩

theorem own_mono {w : World} {base base' : Nat} {e : TypeId} {size : Nat} {v : Value} {n : Nat} {xs : List Value} (h : w.ownsRow base e size v n xs) (hb : base' ≤ base) : w.ownsRow base' e size v n xs := by
  refine ⟨h.1, ?_⟩
  rcases h.2 with hn | ⟨g, cap, cur, hv, hg, rest⟩
  · exact .inl hn
  · exact .inr ⟨g, cap, cur, hv, Nat.le_trans hb hg, rest⟩

/-- 'string(b)' of an owned row of bytes. -/
theorem convert_own {P : Program} {w : World} {base : Nat} {e src dst : TypeId} {v : Value} {l : List UInt8} (hs : P.underlying src = some (.slice e)) (he : P.underlying e = some (.int .u8)) (hd : P.underlying dst = some .string)
    (h : w.ownsRow base e 1 v l.length (u8s l)) : (convert src dst v).run P w = .ok (.string ⟨l.toArray⟩) w := by
  rcases h.2 with ⟨rfl, hn⟩ | ⟨g, cap, cur, hv, _⟩
  · rw [run_convert_bytes_nil (P := P) w src e hs he 0 0 dst hd]
    have : l = [] := List.eq_nil_of_length_eq_zero hn
    subst this
    rfl
  · have hx : (strOfNums (l.map fun b => (b.toNat : Int))) = ⟨l.toArray⟩ := by
      simp only [strOfNums, List.map_map]
      congr 2
      rw [List.map_congr_left (g := id) (fun b _ => by simp), List.map_id]
    rw [hv] at h ⊢
    rw [← hx]
    refine run_convert_bytes_arg (P := P) w src e hs he g 0 l.length cap _ (by simp) (fun i hi => ?_) dst hd
    have hc := h.cellAt i (by omega)
    rw [Nat.zero_add, hc]
    simp [u8s, List.getElem?_eq_getElem hi, List.getD]

end Go.Proofs.Ybulkaznc
