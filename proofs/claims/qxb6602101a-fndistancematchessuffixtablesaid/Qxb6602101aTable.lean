/-
  THE PLAIN TABLES: prefixes and suffixes. No Go in sight.
-/
import Derived.Test.Qxb6602101aLev
namespace Go.Proofs.Qxb6602101a.Lev

theorem at_byte (s : ByteArray) (k : Nat) (h : k < s.size) : s.data.toList[k]'(by simpa using h) = s[k] := by
  simp only [Array.getElem_toList]
  rfl
theorem len_data (s : ByteArray) : s.data.toList.length = s.size := by simp
theorem take_snoc (s : ByteArray) (k : Nat) (h : k < s.size) : s.data.toList.take (k + 1) = s.data.toList.take k ++ [s[k]] := by
  rw [List.take_succ_eq_append_getElem (by simpa using h)]; rfl
theorem drop_cons (s : ByteArray) (k : Nat) (h : k < s.size) : s.data.toList.drop k = s[k] :: s.data.toList.drop (k + 1) := by
  rw [List.drop_eq_getElem_cons (by simpa using h)]; rfl

/-- The distance of the first i bytes of a and the first j of b. -/
def D (a b : ByteArray) (i j : Nat) : Nat := lev (a.data.toList.take i) (b.data.toList.take j)

theorem D_left (a b : ByteArray) (j : Nat) (h : j ≤ b.size) : D a b 0 j = j := by
  unfold D
  rw [List.take_zero, lev_nil, List.length_take, len_data]
  omega
theorem D_right (a b : ByteArray) (i : Nat) (h : i ≤ a.size) : D a b i 0 = i := by
  unfold D
  rw [List.take_zero, lev_nil', List.length_take, len_data]
  omega
theorem D_step (a b : ByteArray) (i j : Nat) (hi : i < a.size) (hj : j < b.size) :
    D a b (i + 1) (j + 1) = min (min (D a b i (j + 1) + 1) (D a b (i + 1) j + 1)) (D a b i j + cost a[i] b[j]) := by
  unfold D
  rw [take_snoc a i hi, take_snoc b j hj]
  exact lev_snoc a[i] b[j] _ _ _ rfl
theorem D_le (a b : ByteArray) (i j : Nat) : D a b i j ≤ max a.size b.size := by
  unfold D
  have h := lev_upper (a.data.toList.take i) (b.data.toList.take j)
  have h1 := List.length_take_le' i a.data.toList
  have h2 := List.length_take_le' j b.data.toList
  rw [len_data] at h1 h2
  omega
theorem D_full (a b : ByteArray) : D a b a.size b.size = lev a.data.toList b.data.toList := by
  unfold D
  rw [List.take_of_length_le (by rw [len_data]; exact Nat.le_refl _), List.take_of_length_le (by rw [len_data]; exact Nat.le_refl _)]

/-- The row in the midst of line i: the first places are of the next line. -/
def mid (a b : ByteArray) (i j : Nat) : Nat → Nat := fun x => if x ≤ j then D a b (i + 1) x else D a b i x
theorem mid_next (a b : ByteArray) (i j : Nat) : mid a b i j (j + 1) = D a b i (j + 1) := if_neg (by omega)
theorem mid_here (a b : ByteArray) (i j : Nat) : mid a b i j j = D a b (i + 1) j := if_pos (Nat.le_refl _)
theorem mid_set (a b : ByteArray) (i j x : Nat) : (if x = j + 1 then D a b (i + 1) (j + 1) else mid a b i j x) = mid a b i (j + 1) x := by
  unfold mid
  by_cases h : x = j + 1
  · subst h
    rw [if_pos rfl, if_pos (Nat.le_refl _)]
  · rw [if_neg h]
    by_cases h2 : x ≤ j
    · rw [if_pos h2, if_pos (by omega)]
    · rw [if_neg h2, if_neg (by omega)]
theorem mid_zero (a b : ByteArray) (i x : Nat) (h : i + 1 ≤ a.size) : (if x = 0 then i + 1 else D a b i x) = mid a b i 0 x := by
  unfold mid
  by_cases e : x = 0
  · subst e
    rw [if_pos rfl, if_pos (Nat.le_refl _), D_right a b _ h]
  · rw [if_neg e, if_neg (by omega)]
theorem mid_full (a b : ByteArray) (i x : Nat) (h : x ≤ b.size) : mid a b i b.size x = D a b (i + 1) x := if_pos h

/-- The distance of what is left of a from i on and of b from j on. -/
def S (a b : ByteArray) (i j : Nat) : Nat := lev (a.data.toList.drop i) (b.data.toList.drop j)
theorem S_left (a b : ByteArray) (j : Nat) : S a b a.size j = b.size - j := by
  unfold S
  rw [List.drop_eq_nil_of_le (by rw [len_data]; exact Nat.le_refl _), lev_nil, List.length_drop, len_data]
theorem S_right (a b : ByteArray) (i : Nat) : S a b i b.size = a.size - i := by
  unfold S
  rw [List.drop_eq_nil_of_le (as := b.data.toList) (by rw [len_data]; exact Nat.le_refl _), lev_nil', List.length_drop, len_data]
theorem S_same (a b : ByteArray) (i j : Nat) (hi : i < a.size) (hj : j < b.size) (h : a[i] = b[j]) : S a b i j = S a b (i + 1) (j + 1) := by
  unfold S
  rw [drop_cons a i hi, drop_cons b j hj, h]
  exact lev_same _ _ _
theorem S_diff (a b : ByteArray) (i j : Nat) (hi : i < a.size) (hj : j < b.size) (h : a[i] ≠ b[j]) : S a b i j = 1 + min (min (S a b (i + 1) j) (S a b i (j + 1))) (S a b (i + 1) (j + 1)) := by
  unfold S
  rw [drop_cons a i hi, drop_cons b j hj]
  exact lev_diff _ _ _ _ h
theorem S_le (a b : ByteArray) (i j : Nat) : S a b i j ≤ max a.size b.size := by
  unfold S
  have h := lev_upper (a.data.toList.drop i) (b.data.toList.drop j)
  rw [List.length_drop, List.length_drop, len_data, len_data] at h
  omega
theorem S_full (a b : ByteArray) : S a b 0 0 = lev a.data.toList b.data.toList := rfl

/-- Places at which the first k bytes differ. -/
def H (a b : ByteArray) (k : Nat) : Nat := ham (a.data.toList.take k) (b.data.toList.take k)
theorem ham_snoc (x y : UInt8) : ∀ (xs ys : List UInt8), xs.length = ys.length → ham (xs ++ [x]) (ys ++ [y]) = ham xs ys + cost x y
  | [], [], _ => by simp [ham]
  | [], y :: ys, h => by simp at h
  | x :: xs, [], h => by simp at h
  | c :: xs, d :: ys, h => by
    have ih := ham_snoc x y xs ys (by simpa using h)
    simp only [List.cons_append, ham, ih]
    omega
theorem H_zero (a b : ByteArray) : H a b 0 = 0 := by simp [H, ham]
theorem H_step (a b : ByteArray) (k : Nat) (hs : a.size = b.size) (hk : k < a.size) (hk' : k < b.size) : H a b (k + 1) = H a b k + cost a[k] b[k] := by
  unfold H
  rw [take_snoc a k hk, take_snoc b k hk']
  exact ham_snoc _ _ _ _ (by rw [List.length_take, List.length_take, len_data, len_data, hs])
theorem H_le (a b : ByteArray) : ∀ k, a.size = b.size → k ≤ a.size → H a b k ≤ k
  | 0, _, _ => by rw [H_zero]; exact Nat.le_refl _
  | k + 1, hs, hk => by
    have ih := H_le a b k hs (by omega)
    have hc := cost_le (a[k]'(by omega)) (b[k]'(by omega))
    rw [H_step a b k hs (by omega) (by omega)]
    omega
theorem H_full (a b : ByteArray) (hs : a.size = b.size) : lev a.data.toList b.data.toList ≤ H a b a.size := by
  unfold H
  rw [List.take_of_length_le (by rw [len_data]; exact Nat.le_refl _), List.take_of_length_le (by rw [len_data]; omega)]
  exact lev_ham _ _ (by rw [len_data, len_data, hs])
end Go.Proofs.Qxb6602101a.Lev
