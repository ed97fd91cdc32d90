namespace Go.Proofs.Qxb6602101a.Lev

/-- The cost of a pair. -/
def cost (x y : UInt8) : Nat := if x = y then 0 else 1

/-- The edit distance by heads. -/
def lev : List UInt8 → List UInt8 → Nat
  | [], ys => ys.length
  | x :: xs, [] => xs.length + 1
  | x :: xs, y :: ys => min (min (lev xs (y :: ys) + 1) (lev (x :: xs) ys + 1)) (lev xs ys + cost x y)

theorem lev_nil (ys : List UInt8) : lev [] ys = ys.length := by simp [lev]
theorem lev_nil' (xs : List UInt8) : lev xs [] = xs.length := by cases xs <;> simp [lev]
theorem lev_cons (x y : UInt8) (xs ys : List UInt8) : lev (x :: xs) (y :: ys) = min (min (lev xs (y :: ys) + 1) (lev (x :: xs) ys + 1)) (lev xs ys + cost x y) := by
  rw [lev]

theorem cost_le (x y : UInt8) : cost x y ≤ 1 := by unfold cost; split <;> omega
theorem cost_comm (x y : UInt8) : cost x y = cost y x := by unfold cost; simp only [eq_comm]

theorem nine (a b c d e f g h i k l : Nat) :
    min (min (min (min (a + 1) (b + 1)) (c + k) + 1) (min (min (d + 1) (e + 1)) (f + k) + 1)) (min (min (g + 1) (h + 1)) (i + k) + l) =
    min (min (min (min (a + 1) (d + 1)) (g + l) + 1) (min (min (b + 1) (e + 1)) (h + l) + 1)) (min (min (c + 1) (f + 1)) (i + l) + k) := by
  simp only [← Nat.add_min_add_right]
  ac_rfl

/-- By tails: the same recursion. -/
theorem lev_snoc (x y : UInt8) : ∀ (n : Nat) (xs ys : List UInt8), xs.length + ys.length = n →
    lev (xs ++ [x]) (ys ++ [y]) = min (min (lev xs (ys ++ [y]) + 1) (lev (xs ++ [x]) ys + 1)) (lev xs ys + cost x y) := by
  intro n
  induction n using Nat.strongRecOn with
  | _ n ih =>
  intro xs ys hn
  match xs, ys, hn with
  | [], [], _ => simp [lev_cons, lev_nil, lev_nil']
  | [], b :: ys, hn =>
    have i1 := ih ([].length + ys.length) (by simp at hn ⊢; omega) [] ys rfl
    simp only [List.nil_append, List.cons_append, lev_cons, lev_nil, List.length_append, List.length_cons, List.length_nil] at i1 ⊢
    omega
  | a :: xs, [], hn =>
    have i1 := ih (xs.length + [].length) (by simp at hn ⊢; omega) xs [] rfl
    simp only [List.nil_append, List.cons_append, lev_cons, lev_nil', List.length_append, List.length_cons, List.length_nil] at i1 ⊢
    omega
  | a :: xs, b :: ys, hn =>
    have i1 := ih (xs.length + (b :: ys).length) (by simp at hn ⊢; omega) xs (b :: ys) rfl
    have i2 := ih ((a :: xs).length + ys.length) (by simp at hn ⊢; omega) (a :: xs) ys rfl
    have i3 := ih (xs.length + ys.length) (by simp at hn ⊢; omega) xs ys rfl
    simp only [List.cons_append] at i1 i2 i3 ⊢
    rw [lev_cons a b (xs ++ [x]) (ys ++ [y]), lev_cons a b xs (ys ++ [y]), lev_cons a b (xs ++ [x]) ys, lev_cons a b xs ys, i1, i2, i3]
    exact nine _ _ _ _ _ _ _ _ _ _ _

theorem lev_comm : ∀ (xs ys : List UInt8), lev xs ys = lev ys xs
  | [], ys => by rw [lev_nil, lev_nil']
  | x :: xs, [] => by rw [lev_nil, lev_nil']
  | x :: xs, y :: ys => by
    rw [lev_cons, lev_cons, lev_comm xs (y :: ys), lev_comm (x :: xs) ys, lev_comm xs ys, cost_comm x y]
    omega

theorem lev_self : ∀ (xs : List UInt8), lev xs xs = 0
  | [] => by simp [lev_nil]
  | x :: xs => by
    have h := lev_self xs
    rw [lev_cons, h]
    simp [cost]

theorem eq_of_lev : ∀ (xs ys : List UInt8), lev xs ys = 0 → xs = ys
  | [], ys, h => by
    rw [lev_nil] at h
    exact (List.eq_nil_of_length_eq_zero h).symm
  | x :: xs, [], h => by rw [lev_nil'] at h; simp at h
  | x :: xs, y :: ys, h => by
    rw [lev_cons] at h
    have h1 : lev xs ys = 0 := by omega
    have h2 : cost x y = 0 := by omega
    have h3 : x = y := by
      unfold cost at h2
      by_cases e : x = y
      · exact e
      · simp [e] at h2
    rw [h3, eq_of_lev xs ys h1]

theorem lev_zero (xs ys : List UInt8) : lev xs ys = 0 ↔ xs = ys :=
  ⟨eq_of_lev xs ys, fun h => by rw [h]; exact lev_self ys⟩

theorem lev_lower : ∀ (xs ys : List UInt8), xs.length ≤ lev xs ys + ys.length ∧ ys.length ≤ lev xs ys + xs.length
  | [], ys => by rw [lev_nil]; simp
  | x :: xs, [] => by rw [lev_nil']; simp
  | x :: xs, y :: ys => by
    have h1 := lev_lower xs (y :: ys)
    have h2 := lev_lower (x :: xs) ys
    have h3 := lev_lower xs ys
    rw [lev_cons]
    simp only [List.length_cons] at *
    omega

theorem lev_upper : ∀ (xs ys : List UInt8), lev xs ys ≤ max xs.length ys.length
  | [], ys => by rw [lev_nil]; simp
  | x :: xs, [] => by rw [lev_nil']; simp
  | x :: xs, y :: ys => by
    have h3 := lev_upper xs ys
    have hc := cost_le x y
    rw [lev_cons]
    simp only [List.length_cons] at *
    omega

/-- Neighbours in the table differ by one at most. -/
theorem lev_near : ∀ (xs ys : List UInt8) (x y : UInt8), lev xs ys ≤ lev (x :: xs) ys + 1 ∧ lev xs ys ≤ lev xs (y :: ys) + 1
  | [], [], x, y => by simp [lev_nil, lev_nil']
  | [], b :: ys, x, y => by
    have h := lev_lower [x] (b :: ys)
    refine ⟨?_, ?_⟩
    · rw [lev_nil]; simp only [List.length_cons, List.length_nil] at *; omega
    · rw [lev_nil, lev_nil]; simp only [List.length_cons] at *; omega
  | a :: xs, [], x, y => by
    have h := lev_lower (a :: xs) [y]
    refine ⟨?_, ?_⟩
    · rw [lev_nil', lev_nil']; simp only [List.length_cons] at *; omega
    · rw [lev_nil']; simp only [List.length_cons, List.length_nil] at *; omega
  | a :: xs, b :: ys, x, y => by
    have hc := cost_le a b
    have e := lev_cons a b xs ys
    refine ⟨?_, ?_⟩
    · have h1 := (lev_near (a :: xs) ys x b).1
      have e2 := lev_cons x b (a :: xs) ys
      omega
    · have h1 := (lev_near xs (b :: ys) a y).2
      have e2 := lev_cons a y xs (b :: ys)
      omega

theorem lev_same (x : UInt8) (xs ys : List UInt8) : lev (x :: xs) (x :: ys) = lev xs ys := by
  have h1 := (lev_near xs ys x x).1
  have h2 := (lev_near xs ys x x).2
  rw [lev_cons]
  simp only [cost, if_true]
  omega

theorem lev_diff (x y : UInt8) (xs ys : List UInt8) (h : x ≠ y) : lev (x :: xs) (y :: ys) = 1 + min (min (lev xs (y :: ys)) (lev (x :: xs) ys)) (lev xs ys) := by
  rw [lev_cons]
  simp only [cost, if_neg h]
  omega

/-- The number of places at which two lists differ. -/
def ham : List UInt8 → List UInt8 → Nat
  | x :: xs, y :: ys => cost x y + ham xs ys
  | _, _ => 0

theorem lev_ham : ∀ (xs ys : List UInt8), xs.length = ys.length → lev xs ys ≤ ham xs ys
  | [], [], _ => by simp [lev_nil, ham]
  | [], y :: ys, h => by simp at h
  | x :: xs, [], h => by simp at h
  | x :: xs, y :: ys, h => by
    have h1 := lev_ham xs ys (by simpa using h)
    rw [lev_cons, ham]
    omega

end Go.Proofs.Qxb6602101a.Lev
