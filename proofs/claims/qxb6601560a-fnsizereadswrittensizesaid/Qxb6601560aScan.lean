/-
  THE WALKS OF THE SCANNER's SMALL METHODS: fail, next.
-/
import Derived.Test.Qxb6601560aProg
import Derived.Test.Qxb6601560aPlain
import Derived.WalkKit
import Derived.WalkSpells
import Derived.WalkLawsBesides
namespace Go.Proofs.Qxb6601560a.Walk
open Go.RowKit
set_option linter.unusedVariables false

/-- The scanner lies in block b: what is still to be read; the flag; both cells may be written. -/
def Scan (w : World) (b : Nat) (s : ByteArray) (f : Bool) : Prop :=
  w.cell? ⟨b, 0, none⟩ = some (.string s) ∧ w.cell? ⟨b, 0 + 1, none⟩ = some (.bool f) ∧ w.frozen? ⟨b, 0, none⟩ = false ∧ w.frozen? ⟨b, 0 + 1, none⟩ = false

set_option maxHeartbeats 400000 in
theorem fail_any (b : Nat) (s : ByteArray) (f : Bool) (w : World) (h1 : w.cell? ⟨b, 0, none⟩ = some (.string s)) (h2 : w.cell? ⟨b, 1, none⟩ = some (.bool f)) (h3 : w.frozen? ⟨b, 0, none⟩ = false) (h4 : w.frozen? ⟨b, 1, none⟩ = false) :
    Calls Try.prog 27 #[.pointer (some ⟨b, 0, none⟩)] w fun e w' => e = .returned (.tuple #[]) ∧ w' = (w.setCell ⟨b, 0, none⟩ (.string ⟨#[]⟩)).setCell ⟨b, 1, none⟩ (.bool true) := by
  go_enter Try.func27, Try.ntmps27
  go_wp2
  go_end0
  exact ⟨rfl, rfl⟩

set_option maxHeartbeats 400000 in
theorem next_any (b : Nat) (s : ByteArray) (n : Nat) (hn : n ≤ s.size) (hs : s.size ≤ 1100000) (w : World) (h1 : w.cell? ⟨b, 0, none⟩ = some (.string s)) (h3 : w.frozen? ⟨b, 0, none⟩ = false) :
    Calls Try.prog 28 #[.pointer (some ⟨b, 0, none⟩), .int .i64 n] w fun e w' => e = .returned (.string (s.extract 0 n)) ∧ w' = w.setCell ⟨b, 0, none⟩ (.string (s.extract n s.size)) := by
  go_enter Try.func28, Try.ntmps28
  go_wp2
  go_ret
  exact ⟨rfl, rfl⟩


theorem at_byte (s : ByteArray) (k : Nat) (h : k < s.size) : s.data.toList[k]'(by simpa using h) = s[k] := by
  simp only [Array.getElem_toList]
  rfl
theorem by_yes {c : UInt8} (d : UInt8) {n : Int} (h : ((c.toNat : Int) == n) = true) (hn : (d.toNat : Int) = n) : c = d := by
  have e : (c.toNat : Int) = n := by simpa using h
  exact UInt8.toNat_inj.1 (by omega)
theorem by_no {c : UInt8} (d : UInt8) {n : Int} (h : ((c.toNat : Int) == n) = false) (hn : (d.toNat : Int) = n) : c ≠ d := by
  intro e
  subst e
  rw [hn] at h
  simp at h
theorem len_data (s : ByteArray) : s.data.toList.length = s.size := by simp

/-! what each way of a round comes to -/
theorem q_quote {s : ByteArray} {k : Nat} (h : Pl.At s.data.toList k false) (hk : k < s.size) (hc : ((s[k].toNat : Int) == 34) = true) : Pl.qe s.data.toList false = some k :=
  Pl.at_quote h (by rw [len_data]; exact hk) (by rw [at_byte s k hk]; exact by_yes 34 hc rfl)
theorem q_tail {s : ByteArray} {k : Nat} (h : Pl.At s.data.toList k false) (hk : k < s.size) (hc : ((s[k].toNat : Int) == 92) = true) (hn : (k : Int) + 1 = s.size) : Pl.qe s.data.toList false = none :=
  Pl.at_pair_end h (by rw [len_data]; omega) (by rw [at_byte s k hk]; exact by_yes 92 hc rfl)
theorem q_feed {s : ByteArray} {k : Nat} (h : Pl.At s.data.toList k false) (hk : k < s.size) (hk2 : k + 1 < s.size) (hc : ((s[k].toNat : Int) == 92) = true) (hn : (((s[k + 1]'hk2).toNat : Int) == 10) = true) : Pl.qe s.data.toList false = none :=
  Pl.at_pair_feed h (by rw [len_data]; omega) (by rw [at_byte s k hk]; exact by_yes 92 hc rfl) (by rw [at_byte s (k + 1) hk2]; exact by_yes 10 hn rfl)
theorem q_pair {s : ByteArray} {k : Nat} (h : Pl.At s.data.toList k false) (hk : k < s.size) (hk2 : k + 1 < s.size) (hc : ((s[k].toNat : Int) == 92) = true) (hn : (((s[k + 1]'hk2).toNat : Int) == 10) = false) : Pl.At s.data.toList (k + 2) false :=
  Pl.at_pair h (by rw [len_data]; omega) (by rw [at_byte s k hk]; exact by_yes 92 hc rfl) (by rw [at_byte s (k + 1) hk2]; exact by_no 10 hn rfl)
theorem q_other {s : ByteArray} {k : Nat} (h : Pl.At s.data.toList k false) (hk : k < s.size) (h1 : ((s[k].toNat : Int) == 34) = false) (h2 : ((s[k].toNat : Int) == 92) = false) : Pl.At s.data.toList (k + 1) false :=
  Pl.at_other h (by rw [len_data]; omega) (by rw [at_byte s k hk]; exact by_no 34 h1 rfl) (by rw [at_byte s k hk]; exact by_no 92 h2 rfl)
theorem q_end {s : ByteArray} {k : Nat} {o : Bool} (h : Pl.At s.data.toList k o) (hk : ¬ k < s.size) : Pl.qe s.data.toList false = none :=
  Pl.at_end h (by rw [len_data]; omega)

set_option maxHeartbeats 1000000 in
theorem quoted_any (b : Nat) (s : ByteArray) (f : Bool) (hs : s.size ≤ 1100000) (w : World) (h1 : w.cell? ⟨b, 0, none⟩ = some (.string s)) (h2 : w.cell? ⟨b, 1, none⟩ = some (.bool f)) (h3 : w.frozen? ⟨b, 0, none⟩ = false) (h4 : w.frozen? ⟨b, 1, none⟩ = false) :
    Calls Try.prog 24 #[.pointer (some ⟨b, 0, none⟩)] w fun e w' =>
      (∃ k, Pl.qe s.data.toList false = some k ∧ e = .returned (.string (s.extract 0 k)) ∧ w' = w.setCell ⟨b, 0, none⟩ (.string (s.extract k s.size))) ∨
      (Pl.qe s.data.toList false = none ∧ e = .returned (.string ⟨#[]⟩) ∧ w' = (w.setCell ⟨b, 0, none⟩ (.string ⟨#[]⟩)).setCell ⟨b, 1, none⟩ (.bool true)) := by
  go_enter Try.func24, Try.ntmps24
  go_wp2_with fail
  go_loop [3] (fun i => ∃ k : Nat, k ≤ s.size ∧ i = .int .i64 k ∧ Pl.At s.data.toList k false) (fun i => s.size - (intOf i).toNat)
  case atStart => exact ⟨0, Nat.zero_le _, rfl, Pl.at_start _⟩
  case round =>
    obtain ⟨k, hk, rfl, hat⟩ := hrel
    go_wp2_with (first | (go_at_call 27; refine (fail_any _ _ _ _ h1 h2 h3 h4).mono ?_; rintro e w' ⟨rfl, rfl⟩) | (go_at_call 28; refine (next_any _ _ _ hk (by omega) _ h1 h3).mono ?_; rintro e w' ⟨rfl, rfl⟩))
    · go_ret
      exact .inl ⟨k, q_quote hat ‹_› ‹_›, rfl, rfl⟩
    · go_ret
      exact .inr ⟨q_tail hat ‹_› ‹_› ‹_›, rfl, rfl⟩
    · have hlt : 0 ≤ (k : Int) + 1 ∧ (k : Int) + 1 < s.size := by assumption
      have hor : ((k : Int) + 1 == s.size) = true ∨ ((s[k + 1].toNat : Int) == 10) = true := by assumption
      have h10 : ((s[k + 1].toNat : Int) == 10) = true := by
        rcases hor with h | h
        · have : (k : Int) + 1 = s.size := by simpa using h
          omega
        · exact h
      go_ret
      exact .inr ⟨q_feed hat ‹_› (by omega) ‹_› h10, rfl, rfl⟩
    · have hlt : 0 ≤ (k : Int) + 1 ∧ (k : Int) + 1 < s.size := by assumption
      have hor : ((k : Int) + 1 == s.size) = false ∧ ((s[k + 1].toNat : Int) == 10) = false := by assumption
      go_round
      case rel => exact ⟨k + 2, by omega, by go_num, q_pair hat ‹_› (by omega) ‹_› hor.2⟩
      case measure => simp [intOf]; omega
    · go_round
      case rel => exact ⟨k + 1, by omega, by go_num, q_other hat ‹_› ‹_› ‹_›⟩
      case measure => simp [intOf]; omega
    · go_ret
      exact .inr ⟨q_end hat ‹_›, rfl, rfl⟩

theorem quoted_yes (b : Nat) (s : ByteArray) (f : Bool) (hs : s.size ≤ 1100000) (k : Nat) (hq : Hid (Pl.qe s.data.toList false = some k)) (w : World) (h1 : w.cell? ⟨b, 0, none⟩ = some (.string s)) (h2 : w.cell? ⟨b, 1, none⟩ = some (.bool f)) (h3 : w.frozen? ⟨b, 0, none⟩ = false) (h4 : w.frozen? ⟨b, 1, none⟩ = false) :
    Calls Try.prog 24 #[.pointer (some ⟨b, 0, none⟩)] w fun e w' =>
      e = .returned (.string (s.extract 0 k)) ∧ w' = w.setCell ⟨b, 0, none⟩ (.string (s.extract k s.size)) := by
  refine (quoted_any b s f hs w h1 h2 h3 h4).mono ?_
  rintro e w' (⟨j, hj, he, hw⟩ | ⟨hj, _⟩)
  · rw [hq.out] at hj
    obtain rfl : k = j := by simpa using hj
    exact ⟨he, hw⟩
  · rw [hq.out] at hj
    exact absurd hj (by simp)
theorem quoted_no (b : Nat) (s : ByteArray) (f : Bool) (hs : s.size ≤ 1100000) (hq : Hid (Pl.qe s.data.toList false = none)) (w : World) (h1 : w.cell? ⟨b, 0, none⟩ = some (.string s)) (h2 : w.cell? ⟨b, 1, none⟩ = some (.bool f)) (h3 : w.frozen? ⟨b, 0, none⟩ = false) (h4 : w.frozen? ⟨b, 1, none⟩ = false) :
    Calls Try.prog 24 #[.pointer (some ⟨b, 0, none⟩)] w fun e w' =>
      e = .returned (.string ⟨#[]⟩) ∧ w' = (w.setCell ⟨b, 0, none⟩ (.string ⟨#[]⟩)).setCell ⟨b, 1, none⟩ (.bool true) := by
  refine (quoted_any b s f hs w h1 h2 h3 h4).mono ?_
  rintro e w' (⟨j, hj, _⟩ | ⟨hj, he, hw⟩)
  · rw [hq.out] at hj
    exact absurd hj (by simp)
  · exact ⟨he, hw⟩
end Go.Proofs.Qxb6601560a.Walk
