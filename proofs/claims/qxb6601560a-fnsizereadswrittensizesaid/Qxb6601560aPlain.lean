/-
  THE PLAIN LAWS OF THIS SEAT: lists of bytes and numbers, no Go in sight.
-/
namespace Go.Proofs.Qxb6601560a.Pl

/-! ### the quoted field -/
/-- Where the quoted field ends: by the parity of the run of backslashes. -/
def qe : List UInt8 → Bool → Option Nat
  | [], _ => none
  | c :: l, odd => if c = 34 ∧ odd = false then some 0 else if c = 10 ∧ odd = true then none else (qe l (if c = 92 then !odd else false)).map (· + 1)

theorem qe_nil (o : Bool) : qe [] o = none := by simp [qe]
theorem qe_cons (c : UInt8) (l : List UInt8) (odd : Bool) : qe (c :: l) odd = if c = 34 ∧ odd = false then some 0 else if c = 10 ∧ odd = true then none else (qe l (if c = 92 then !odd else false)).map (· + 1) := by
  rw [qe]

/-- 'At place k, with the parity odd, the answer of the whole is the answer from here on.' -/
def At (l : List UInt8) (k : Nat) (odd : Bool) : Prop := qe l false = (qe (l.drop k) odd).map (· + k)

theorem at_start (l : List UInt8) : At l 0 false := by
  unfold At
  simp

theorem at_quote {l : List UInt8} {k : Nat} (h : At l k false) (hk : k < l.length) (hc : l[k] = 34) : qe l false = some k := by
  unfold At at h
  rw [h, List.drop_eq_getElem_cons hk, qe_cons, if_pos ⟨hc, rfl⟩]
  simp

theorem at_feed {l : List UInt8} {k : Nat} (h : At l k true) (hk : k < l.length) (hc : l[k] = 10) : qe l false = none := by
  unfold At at h
  rw [h, List.drop_eq_getElem_cons hk, qe_cons, if_neg (by simp), if_pos ⟨hc, rfl⟩]
  simp

theorem at_end {l : List UInt8} {k : Nat} {odd : Bool} (h : At l k odd) (hk : l.length ≤ k) : qe l false = none := by
  unfold At at h
  rw [h, List.drop_eq_nil_of_le hk, qe_nil]
  simp

theorem at_step {l : List UInt8} {k : Nat} {odd : Bool} (h : At l k odd) (hk : k < l.length) (h1 : ¬ (l[k] = 34 ∧ odd = false)) (h2 : ¬ (l[k] = 10 ∧ odd = true)) :
    At l (k + 1) (if l[k] = 92 then !odd else false) := by
  unfold At at h ⊢
  rw [h, List.drop_eq_getElem_cons hk, qe_cons, if_neg h1, if_neg h2, Option.map_map]
  congr 1
  funext x
  simp only [Function.comp]
  omega

/-- A backslash and what it escapes. -/
theorem at_pair {l : List UInt8} {k : Nat} (h : At l k false) (hk : k + 1 < l.length) (hc : l[k] = 92) (hn : l[k + 1] ≠ 10) : At l (k + 2) false := by
  have s1 := at_step h (by omega) (by rw [hc]; decide) (by simp)
  rw [if_pos hc] at s1
  have s2 := at_step s1 hk (by simp) (by simp [hn])
  by_cases e : l[k + 1] = 92
  · rw [if_pos e] at s2
    exact s2
  · rw [if_neg e] at s2
    exact s2

theorem at_pair_feed {l : List UInt8} {k : Nat} (h : At l k false) (hk : k + 1 < l.length) (hc : l[k] = 92) (hn : l[k + 1] = 10) : qe l false = none := by
  have s1 := at_step h (by omega) (by rw [hc]; decide) (by simp)
  rw [if_pos hc] at s1
  exact at_feed s1 hk hn

theorem at_pair_end {l : List UInt8} {k : Nat} (h : At l k false) (hk : k + 1 = l.length) (hc : l[k] = 92) : qe l false = none := by
  have s1 := at_step h (by omega) (by rw [hc]; decide) (by simp)
  exact at_end s1 (by omega)

/-- Another byte. -/
theorem at_other {l : List UInt8} {k : Nat} (h : At l k false) (hk : k < l.length) (h1 : l[k] ≠ 34) (h2 : l[k] ≠ 92) : At l (k + 1) false := by
  have s := at_step h hk (by simp [h1]) (by simp)
  rw [if_neg h2] at s
  exact s

theorem qe_lt : ∀ (l : List UInt8) (o : Bool) (k : Nat), qe l o = some k → k < l.length
  | [], o, k, h => by simp [qe_nil] at h
  | c :: l, o, k, h => by
    rw [qe_cons] at h
    by_cases h1 : c = 34 ∧ o = false
    · rw [if_pos h1] at h
      simp at h
      simp
      omega
    · rw [if_neg h1] at h
      by_cases h2 : c = 10 ∧ o = true
      · rw [if_pos h2] at h
        simp at h
      · rw [if_neg h2] at h
        rw [Option.map_eq_some_iff] at h
        obtain ⟨j, hj, rfl⟩ := h
        have := qe_lt l _ j hj
        simp
        omega

/-- A value written as a quoted body. -/
def esc : List UInt8 → List UInt8
  | [] => []
  | c :: l => if c = 34 ∨ c = 92 then 92 :: c :: esc l else c :: esc l

theorem esc_nil : esc [] = [] := by simp [esc]
theorem esc_cons (c : UInt8) (l : List UInt8) : esc (c :: l) = if c = 34 ∨ c = 92 then 92 :: c :: esc l else c :: esc l := by rw [esc]

theorem esc_snoc : ∀ (l : List UInt8) (c : UInt8), esc (l ++ [c]) = esc l ++ (if c = 34 ∨ c = 92 then [92, c] else [c])
  | [], c => by
    rw [List.nil_append, esc_cons, esc_nil, List.nil_append]
  | x :: l, c => by
    rw [List.cons_append, esc_cons, esc_cons, esc_snoc l c]
    by_cases h : x = 34 ∨ x = 92
    · rw [if_pos h, if_pos h]; rfl
    · rw [if_neg h, if_neg h]; rfl

theorem esc_len : ∀ (l : List UInt8), (esc l).length ≤ 2 * l.length
  | [] => by simp [esc_nil]
  | x :: l => by
    have := esc_len l
    rw [esc_cons]
    by_cases h : x = 34 ∨ x = 92
    · rw [if_pos h]; simp only [List.length_cons]; omega
    · rw [if_neg h]; simp only [List.length_cons]; omega

/-- The closing quote is found behind the escaped body. -/
theorem qe_esc : ∀ (v t : List UInt8), qe (esc v ++ 34 :: t) false = some (esc v).length
  | [], t => by rw [esc_nil, List.nil_append, qe_cons, if_pos ⟨rfl, rfl⟩]; rfl
  | c :: v, t => by
    have ih := qe_esc v t
    rw [esc_cons]
    by_cases h : c = 34 ∨ c = 92
    · rw [if_pos h, List.cons_append, List.cons_append, qe_cons, if_neg (by decide), if_neg (by decide), if_pos rfl, qe_cons, if_neg (by simp), if_neg (by rcases h with h | h <;> (subst h; decide))]
      have e : (if c = 92 then !(!false) else false) = false := by split <;> rfl
      rw [e, ih]
      rfl
    · have h1 : ¬ c = 34 := fun e => h (.inl e)
      have h2 : ¬ c = 92 := fun e => h (.inr e)
      rw [if_neg h, List.cons_append, qe_cons, if_neg (fun e => h1 e.1), if_neg (by simp), if_neg h2, ih]
      rfl

/-! ### the fields of a line -/
/-- How many fields begin ahead of place i: 'f j': byte j is white space. -/
def starts (f : Nat → Bool) : Nat → Nat
  | 0 => 0
  | i + 1 => starts f i + (if f i = false ∧ (i = 0 ∨ f (i - 1) = true) then 1 else 0)

theorem starts_zero (f : Nat → Bool) : starts f 0 = 0 := rfl
theorem starts_succ (f : Nat → Bool) (i : Nat) : starts f (i + 1) = starts f i + (if f i = false ∧ (i = 0 ∨ f (i - 1) = true) then 1 else 0) := rfl
theorem starts_le (f : Nat → Bool) : ∀ i, starts f i ≤ i
  | 0 => Nat.le_refl _
  | i + 1 => by
    have := starts_le f i
    rw [starts_succ]
    split <;> omega

theorem starts_space (f : Nat → Bool) (i : Nat) (h : f i = true) : starts f (i + 1) = starts f i := by
  rw [starts_succ, if_neg (by simp [h])]
  rfl

theorem starts_field (f : Nat → Bool) (p : Nat) (hp : p = 0 ∨ f (p - 1) = true) : ∀ n, (∀ j, j < n + 1 → f (p + j) = false) → starts f (p + (n + 1)) = starts f p + 1
  | 0, h => by
    have h0 := h 0 (by omega)
    rw [Nat.add_zero] at h0
    show starts f (p + 1) = _
    rw [starts_succ, if_pos ⟨h0, hp⟩]
  | n + 1, h => by
    have ih := starts_field f p hp n (fun j hj => h j (by omega))
    have h1 := h n (by omega)
    show starts f (p + (n + 1) + 1) = _
    rw [starts_succ, ih, if_neg]
    rintro ⟨_, h2 | h2⟩
    · omega
    · rw [show p + (n + 1) - 1 = p + n from by omega, h1] at h2
      exact absurd h2 (by decide)

end Go.Proofs.Qxb6601560a.Pl
