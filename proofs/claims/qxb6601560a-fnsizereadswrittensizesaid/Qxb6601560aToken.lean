/-
  THE WALKS OF isSpace, zzIsSpace, token, ZZToken.
-/
import Derived.Test.Qxb6601560aScan
namespace Go.Proofs.Qxb6601560a.Walk
open Go.RowKit
set_option linter.unusedVariables false

/-- White space. -/
def sp (n : Int) : Bool := n == 32 || n == 9 || n == 10 || n == 12 || n == 13

theorem sp_cases (n : Int) : (n = 32 ∧ sp n = true) ∨ (n = 9 ∧ sp n = true) ∨ (n = 10 ∧ sp n = true) ∨ (n = 12 ∧ sp n = true) ∨ (n = 13 ∧ sp n = true) ∨
    (((n == 32) = false ∧ (n == 9) = false ∧ (n == 10) = false ∧ (n == 12) = false ∧ (n == 13) = false) ∧ sp n = false) := by
  by_cases h1 : n = 32
  · subst h1; exact .inl ⟨rfl, rfl⟩
  by_cases h2 : n = 9
  · subst h2; exact .inr (.inl ⟨rfl, rfl⟩)
  by_cases h3 : n = 10
  · subst h3; exact .inr (.inr (.inl ⟨rfl, rfl⟩))
  by_cases h4 : n = 12
  · subst h4; exact .inr (.inr (.inr (.inl ⟨rfl, rfl⟩)))
  by_cases h5 : n = 13
  · subst h5; exact .inr (.inr (.inr (.inr (.inl ⟨rfl, rfl⟩))))
  have e1 := beq_eq_false_iff_ne.2 h1
  have e2 := beq_eq_false_iff_ne.2 h2
  have e3 := beq_eq_false_iff_ne.2 h3
  have e4 := beq_eq_false_iff_ne.2 h4
  have e5 := beq_eq_false_iff_ne.2 h5
  exact .inr (.inr (.inr (.inr (.inr ⟨⟨e1, e2, e3, e4, e5⟩, by simp only [sp, e1, e2, e3, e4, e5]; rfl⟩))))

set_option maxHeartbeats 1000000 in
theorem isSpace_any (n : Int) (w : World) : Calls Try.prog 26 #[.int .u8 n] w fun e w' => e = .returned (.bool (sp n)) ∧ w' = w := by
  rcases sp_cases n with ⟨rfl, h⟩ | ⟨rfl, h⟩ | ⟨rfl, h⟩ | ⟨rfl, h⟩ | ⟨rfl, h⟩ | ⟨⟨h1, h2, h3, h4, h5⟩, h⟩
  all_goals
    rw [h]
    clear h
    go_enter Try.func26, Try.ntmps26
    go_wp2
    go_ret
    exact ⟨rfl, rfl⟩

set_option maxHeartbeats 1000000 in
theorem zzIsSpace_any (n : Int) (w : World) : Calls Try.prog 11 #[.int .u8 n] w fun e w' => e = .returned (.bool (sp n)) ∧ w' = w := by
  rcases sp_cases n with ⟨rfl, h⟩ | ⟨rfl, h⟩ | ⟨rfl, h⟩ | ⟨rfl, h⟩ | ⟨rfl, h⟩ | ⟨⟨h1, h2, h3, h4, h5⟩, h⟩
  all_goals
    rw [h]
    clear h
    go_enter Try.func11, Try.ntmps11
    go_wp2
    go_ret
    exact ⟨rfl, rfl⟩

/-- No white space ahead of place k. -/
def Free (s : ByteArray) (k : Nat) : Prop := ∀ j (h : j < s.size), j < k → sp (s[j].toNat : Int) = false
theorem free_zero (s : ByteArray) : Free s 0 := fun j _ h => absurd h (by omega)
theorem free_succ {s : ByteArray} {k : Nat} (h : Free s k) (hk : k < s.size) (hs : sp (s[k].toNat : Int) = false) : Free s (k + 1) := by
  intro j hj hjk
  by_cases e : j = k
  · subst e; exact hs
  · exact h j hj (by omega)
/-- The field ends at n. -/
def TokAt (s : ByteArray) (n : Nat) : Prop := n ≤ s.size ∧ Free s n ∧ ∀ h : n < s.size, sp (s[n].toNat : Int) = true

/-- 'next' right behind 'fail'. -/
theorem next_failed (b : Nat) (s : ByteArray) (f : Bool) (w : World) (h1 : w.cell? ⟨b, 0, none⟩ = some (.string s)) (h2 : w.cell? ⟨b, 1, none⟩ = some (.bool f)) (h3 : w.frozen? ⟨b, 0, none⟩ = false) :
    Calls Try.prog 28 #[.pointer (some ⟨b, 0, none⟩), .int .i64 0] ((w.setCell ⟨b, 0, none⟩ (.string ⟨#[]⟩)).setCell ⟨b, 1, none⟩ (.bool true)) fun e w' =>
      e = .returned (.string ⟨#[]⟩) ∧ w' = ((w.setCell ⟨b, 0, none⟩ (.string ⟨#[]⟩)).setCell ⟨b, 1, none⟩ (.bool true)).setCell ⟨b, 0, none⟩ (.string ⟨#[]⟩) :=
  next_any b ⟨#[]⟩ 0 (Nat.zero_le _) (by decide) _ (by go_simp) (by go_simp)

set_option maxHeartbeats 1000000 in
theorem token_any (b : Nat) (s : ByteArray) (f : Bool) (hs : s.size ≤ 1100000) (w : World) (h1 : w.cell? ⟨b, 0, none⟩ = some (.string s)) (h2 : w.cell? ⟨b, 1, none⟩ = some (.bool f)) (h3 : w.frozen? ⟨b, 0, none⟩ = false) (h4 : w.frozen? ⟨b, 1, none⟩ = false) :
    Calls Try.prog 23 #[.pointer (some ⟨b, 0, none⟩)] w fun e w' =>
      ∃ n, TokAt s n ∧
      ((n = 0 ∧ e = .returned (.string ⟨#[]⟩) ∧ w' = ((w.setCell ⟨b, 0, none⟩ (.string ⟨#[]⟩)).setCell ⟨b, 1, none⟩ (.bool true)).setCell ⟨b, 0, none⟩ (.string ⟨#[]⟩)) ∨
       (0 < n ∧ e = .returned (.string (s.extract 0 n)) ∧ w' = w.setCell ⟨b, 0, none⟩ (.string (s.extract n s.size)))) := by
  go_enter Try.func23, Try.ntmps23
  go_wp2_with fail
  go_loop [3] (fun i => ∃ k : Nat, k ≤ s.size ∧ i = .int .i64 k ∧ Free s k) (fun i => s.size - (intOf i).toNat)
  case atStart => exact ⟨0, Nat.zero_le _, rfl, free_zero s⟩
  case round =>
    obtain ⟨k, hk, rfl, hat⟩ := hrel
    by_cases hlt : k < s.size
    · cases hsp : sp (s[k].toNat : Int)
      · go_wp2_with (go_at_call 26; refine (isSpace_any _ _).mono ?_; rintro e w' ⟨rfl, rfl⟩)
        go_round
        case rel => exact ⟨k + 1, by omega, by go_num, free_succ hat hlt hsp⟩
        case measure => simp [intOf]; omega
      · have hT : TokAt s k := ⟨hk, hat, fun _ => hsp⟩
        by_cases h0 : k = 0
        · subst h0
          go_wp2_with (first | (go_at_call 26; refine (isSpace_any _ _).mono ?_; rintro e w' ⟨rfl, rfl⟩) | (go_at_call 27; refine (fail_any _ _ _ _ h1 h2 h3 h4).mono ?_; rintro e w' ⟨rfl, rfl⟩))
          refine (next_failed b s f _ h1 h2 h3).mono ?_
          rintro e w2 ⟨rfl, rfl⟩
          go_wp2
          go_ret
          exact ⟨0, hT, .inl ⟨rfl, rfl, rfl⟩⟩
        · have h0' : ((k : Int) == 0) = false := by simp; omega
          go_wp2_with (first | (go_at_call 26; refine (isSpace_any _ _).mono ?_; rintro e w' ⟨rfl, rfl⟩) | (go_at_call 28; refine (next_any _ _ _ hk (by omega) _ h1 h3).mono ?_; rintro e w' ⟨rfl, rfl⟩))
          go_ret
          exact ⟨k, hT, .inr ⟨by omega, rfl, rfl⟩⟩
    · have hT : TokAt s k := ⟨hk, hat, fun h => absurd h hlt⟩
      by_cases h0 : k = 0
      · subst h0
        go_wp2_with (first | (go_at_call 27; refine (fail_any _ _ _ _ h1 h2 h3 h4).mono ?_; rintro e w' ⟨rfl, rfl⟩))
        refine (next_failed b s f _ h1 h2 h3).mono ?_
        rintro e w2 ⟨rfl, rfl⟩
        go_wp2
        go_ret
        exact ⟨0, hT, .inl ⟨rfl, rfl, rfl⟩⟩
      · have h0' : ((k : Int) == 0) = false := by simp; omega
        go_wp2_with (first | (go_at_call 28; refine (next_any _ _ _ hk (by omega) _ h1 h3).mono ?_; rintro e w' ⟨rfl, rfl⟩))
        go_ret
        exact ⟨k, hT, .inr ⟨by omega, rfl, rfl⟩⟩

/-- The line is empty, or opens with white space. -/
def Blank (s : ByteArray) : Prop := ∀ h : 0 < s.size, sp (s[0].toNat : Int) = true
theorem tok_blank {s : ByteArray} {n : Nat} (h : TokAt s n) (hb : Blank s) : n = 0 := by
  by_cases e : n = 0
  · exact e
  · have h0 : 0 < s.size := by have := h.1; omega
    have h1 := h.2.1 0 h0 (by omega)
    rw [hb h0] at h1
    exact absurd h1 (by decide)
theorem tok_full {s : ByteArray} {n : Nat} (h : TokAt s n) (hp : 0 < s.size) (hb : sp (s[0].toNat : Int) = false) : 0 < n := by
  by_cases e : n = 0
  · subst e
    have h1 := h.2.2 hp
    rw [hb] at h1
    exact absurd h1 (by decide)
  · omega

set_option maxHeartbeats 1000000 in
theorem zzt_no (s : ByteArray) (f : Bool) (hs : s.size ≤ 1100000) (hb : Blank s) (w : World) :
    Calls Try.prog 10 #[.string s, .bool f] w fun e w' => e = .returned (.tuple #[.string ⟨#[]⟩, .string ⟨#[]⟩, .bool true]) ∧ Below w.heap.size w w' := by
  go_enter Try.func10, Try.ntmps10
  go_wp2_with fail
  refine (token_any w.heap.size s f hs _ (by simp) (by simp) (by simp) (by simp)).mono ?_
  rintro e w' ⟨n, hT, ⟨hn, rfl, rfl⟩ | ⟨hn, _⟩⟩
  · clear hT hn
    go_wp2
    go_region
    all_goals go_wp2
    all_goals go_ret3
    all_goals exact ⟨rfl, (((Below.refl _ _).alloc (Nat.le_refl _) _)).drew⟩
  · have := tok_blank hT hb
    omega

/-- What ZZToken hands back where the line opens with a field. -/
structure Split (s r a : ByteArray) : Prop where
  left : s.extract 0 r.size = r
  right : s.extract r.size s.size = a
  sum : r.size + a.size = s.size
  pos : 0 < r.size
  free : Free r r.size
  ends : Blank a
  same : ∀ j (h : j < r.size) (h' : j < s.size), r[j] = s[j]
  behind : ∀ (h : r.size < s.size), sp (s[r.size].toNat : Int) = true

theorem ex_size (s : ByteArray) (n : Nat) (h : n ≤ s.size) : (s.extract 0 n).size = n := by
  simp; omega
theorem ex_get (s : ByteArray) (n j : Nat) (h : j < (s.extract 0 n).size) (h' : j < s.size) : (s.extract 0 n)[j] = s[j] := by
  simp [ByteArray.getElem_extract]
theorem split_of {s : ByteArray} {n : Nat} (h : TokAt s n) (hn : 0 < n) : Split s (s.extract 0 n) (s.extract n s.size) where
  left := by rw [ex_size s n h.1]
  right := by rw [ex_size s n h.1]
  sum := by rw [ex_size s n h.1]; have := h.1; simp; omega
  pos := by rw [ex_size s n h.1]; exact hn
  free := by
    intro j hj _
    have hj' : j < n := by rwa [ex_size s n h.1] at hj
    have := h.1
    rw [ex_get s n j hj (by omega)]
    exact h.2.1 j (by omega) hj'
  ends := by
    intro h0
    have hlt : n < s.size := by
      simp at h0
      omega
    have := h.2.2 hlt
    simpa [ByteArray.getElem_extract] using this
  same := fun j hj hj' => ex_get s n j hj hj'
  behind := by
    intro hh
    have e := ex_size s n h.1
    simp only [e] at hh ⊢
    exact h.2.2 hh

set_option maxHeartbeats 1000000 in
theorem zzt_yes (s : ByteArray) (f : Bool) (hs : s.size ≤ 1100000) (hp : 0 < s.size) (hb : sp (s[0].toNat : Int) = false) (w : World) :
    Calls Try.prog 10 #[.string s, .bool f] w fun e w' => ∃ r a, Split s r a ∧ e = .returned (.tuple #[.string r, .string a, .bool f]) ∧ Below w.heap.size w w' := by
  go_enter Try.func10, Try.ntmps10
  go_wp2_with fail
  refine (token_any w.heap.size s f hs _ (by simp) (by simp) (by simp) (by simp)).mono ?_
  rintro e w' ⟨n, hT, ⟨hn, _⟩ | ⟨hn, rfl, rfl⟩⟩
  · have := tok_full hT hp hb
    omega
  · have hS := split_of hT hn
    clear hT hb hp
    go_wp2
    go_region
    all_goals go_wp2
    all_goals go_ret3
    all_goals exact ⟨_, _, hS, rfl, (((Below.refl _ _).alloc (Nat.le_refl _) _)).drew⟩
end Go.Proofs.Qxb6601560a.Walk
