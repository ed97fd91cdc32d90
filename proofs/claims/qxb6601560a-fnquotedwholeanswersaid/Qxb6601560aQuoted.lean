/-
  THE WALKS OF ZZQuoted, zzQuotedEnd.
-/
import Derived.Test.Qxb6601560aScan
namespace Go.Proofs.Qxb6601560a.Walk
open Go.RowKit
set_option linter.unusedVariables false

set_option maxHeartbeats 1000000 in
theorem zzq_yes (s : ByteArray) (f : Bool) (hs : s.size ≤ 1100000) (k : Nat) (hq : Hid (Pl.qe s.data.toList false = some k)) (w : World) :
    Calls Try.prog 14 #[.string s, .bool f] w fun e w' => e = .returned (.tuple #[.string (s.extract 0 k), .string (s.extract k s.size), .bool f]) ∧ Grown w w' ∧ Below w.heap.size w w' := by
  go_enter Try.func14, Try.ntmps14
  go_wp2_with fail
  refine (quoted_yes w.heap.size s f hs k hq _ (by simp) (by simp) (by simp) (by simp)).mono ?_
  rintro e w' ⟨rfl, rfl⟩
  go_wp2
  go_region
  all_goals go_wp2
  all_goals go_ret3
  all_goals exact ⟨rfl, by repeat (first | exact Grown.refl _ | apply Grown.drew | apply Grown.alloc), (((Below.refl _ _).alloc (Nat.le_refl _) _)).drew⟩

set_option maxHeartbeats 1000000 in
theorem zzq_no (s : ByteArray) (f : Bool) (hs : s.size ≤ 1100000) (hq : Hid (Pl.qe s.data.toList false = none)) (w : World) :
    Calls Try.prog 14 #[.string s, .bool f] w fun e w' => e = .returned (.tuple #[.string ⟨#[]⟩, .string ⟨#[]⟩, .bool true]) ∧ Grown w w' ∧ Below w.heap.size w w' := by
  go_enter Try.func14, Try.ntmps14
  go_wp2_with fail
  refine (quoted_no w.heap.size s f hs hq _ (by simp) (by simp) (by simp) (by simp)).mono ?_
  rintro e w' ⟨rfl, rfl⟩
  go_wp2
  go_region
  all_goals go_wp2
  all_goals go_ret3
  all_goals exact ⟨rfl, by repeat (first | exact Grown.refl _ | apply Grown.drew | apply Grown.alloc), (((Below.refl _ _).alloc (Nat.le_refl _) _)).drew⟩

theorem by_eq {c : UInt8} (d : UInt8) {n : Int} (hn : (d.toNat : Int) = n) : c = d ↔ (c.toNat : Int) = n :=
  ⟨fun e => by rw [e]; exact hn, fun e => UInt8.toNat_inj.1 (by omega)⟩
theorem e_step {s : ByteArray} {k : Nat} {odd : Bool} (h : Pl.At s.data.toList k odd) (hk : k < s.size) (o' : Bool) (h1 : ¬ ((s[k].toNat : Int) = 34 ∧ odd = false)) (h2 : ¬ ((s[k].toNat : Int) = 10 ∧ odd = true))
    (ho : o' = (((s[k].toNat : Int) == 92) && !odd)) : Pl.At s.data.toList (k + 1) o' := by
  have st := Pl.at_step h (by rw [len_data]; exact hk) (by rw [at_byte s k hk, by_eq 34 rfl]; exact h1) (by rw [at_byte s k hk, by_eq 10 rfl]; exact h2)
  rw [at_byte s k hk] at st
  rw [ho]
  by_cases e : s[k] = 92
  · rw [if_pos e] at st
    rw [(by_eq 92 rfl).1 e]
    simpa using st
  · rw [if_neg e] at st
    have e' : ¬ (s[k].toNat : Int) = 92 := fun x => e ((by_eq 92 rfl).2 x)
    rw [beq_eq_false_iff_ne.2 e']
    simpa using st
theorem e_quote {s : ByteArray} {k : Nat} (h : Pl.At s.data.toList k false) (hk : k < s.size) (hc : (s[k].toNat : Int) = 34) : Pl.qe s.data.toList false = some k :=
  q_quote h hk (beq_iff_eq.2 hc)
theorem e_feed {s : ByteArray} {k : Nat} (h : Pl.At s.data.toList k true) (hk : k < s.size) (hc : (s[k].toNat : Int) = 10) : Pl.qe s.data.toList false = none :=
  Pl.at_feed h (by rw [len_data]; exact hk) (by rw [at_byte s k hk, by_eq 10 rfl]; exact hc)

set_option maxHeartbeats 1000000 in
theorem qend_any (s : ByteArray) (hs : s.size ≤ 1100000) (w : World) :
    Calls Try.prog 15 #[.string s] w fun e w' =>
      ((∃ k, Pl.qe s.data.toList false = some k ∧ e = .returned (.tuple #[.int .i64 k, .bool true])) ∨
      (Pl.qe s.data.toList false = none ∧ e = .returned (.tuple #[.int .i64 0, .bool false]))) ∧ w' = w := by
  go_enter Try.func15, Try.ntmps15
  go_wp2_with fail
  go_loop [4, 5] (fun o i => ∃ (k : Nat) (odd : Bool), k ≤ s.size ∧ i = .int .i64 k ∧ o = .bool odd ∧ Pl.At s.data.toList k odd) (fun _ i => s.size - (intOf i).toNat)
  case atStart => exact ⟨0, false, Nat.zero_le _, rfl, rfl, Pl.at_start _⟩
  case round =>
    obtain ⟨k, odd, hk, rfl, rfl, hat⟩ := hrel
    cases odd
    · go_wp2
      · go_ret2
        exact ⟨.inl ⟨k, e_quote hat ‹_› ‹_›, rfl⟩, rfl⟩
      · have h10 : (s[k].toNat : Int) = 10 := by assumption
        go_round
        case rel => exact ⟨k + 1, false, by omega, by go_num, rfl, e_step hat ‹_› _ (by omega) (by simp) (by rw [h10]; rfl)⟩
        case measure => simp [intOf]; omega
      · have h92 : ((s[k].toNat : Int) == 92) = true := by assumption
        go_round
        case rel => exact ⟨k + 1, true, by omega, by go_num, rfl, e_step hat ‹_› _ (by omega) (by simp) (by rw [h92]; rfl)⟩
        case measure => simp [intOf]; omega
      · have h92 : ((s[k].toNat : Int) == 92) = false := by assumption
        go_round
        case rel => exact ⟨k + 1, false, by omega, by go_num, rfl, e_step hat ‹_› _ (by omega) (by simp) (by rw [h92]; rfl)⟩
        case measure => simp [intOf]; omega
      · go_ret2
        exact ⟨.inr ⟨q_end hat ‹_›, rfl⟩, rfl⟩
    · go_wp2
      · have h34 : (s[k].toNat : Int) = 34 := by assumption
        go_round
        case rel => exact ⟨k + 1, false, by omega, by go_num, rfl, e_step hat ‹_› _ (by simp) (by omega) (by simp)⟩
        case measure => simp [intOf]; omega
      · go_ret2
        exact ⟨.inr ⟨e_feed hat ‹_› ‹_›, rfl⟩, rfl⟩
      · go_round
        case rel => exact ⟨k + 1, false, by omega, by go_num, rfl, e_step hat ‹_› _ (by simp) (by omega) (by simp)⟩
        case measure => simp [intOf]; omega
      · go_round
        case rel => exact ⟨k + 1, false, by omega, by go_num, rfl, e_step hat ‹_› _ (by simp) (by omega) (by simp)⟩
        case measure => simp [intOf]; omega
      · go_ret2
        exact ⟨.inr ⟨q_end hat ‹_›, rfl⟩, rfl⟩

theorem qend_yes (s : ByteArray) (hs : s.size ≤ 1100000) (k : Nat) (hq : Hid (Pl.qe s.data.toList false = some k)) (w : World) :
    Calls Try.prog 15 #[.string s] w fun e w' => e = .returned (.tuple #[.int .i64 k, .bool true]) ∧ w' = w := by
  refine (qend_any s hs w).mono ?_
  rintro e w' ⟨⟨j, hj, he⟩ | ⟨hj, _⟩, hw⟩
  · rw [hq.out] at hj
    obtain rfl : k = j := by simpa using hj
    exact ⟨he, hw⟩
  · rw [hq.out] at hj
    exact absurd hj (by simp)
theorem qend_no (s : ByteArray) (hs : s.size ≤ 1100000) (hq : Hid (Pl.qe s.data.toList false = none)) (w : World) :
    Calls Try.prog 15 #[.string s] w fun e w' => e = .returned (.tuple #[.int .i64 0, .bool false]) ∧ w' = w := by
  refine (qend_any s hs w).mono ?_
  rintro e w' ⟨⟨j, hj, _⟩ | ⟨hj, he⟩, hw⟩
  · rw [hq.out] at hj
    exact absurd hj (by simp)
  · exact ⟨he, hw⟩

end Go.Proofs.Qxb6601560a.Walk
