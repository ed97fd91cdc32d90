/-
  THE WALK OF FnSizeWholeAnswer.
-/
import Derived.Test.Qxb6601560aSize
namespace Go.Proofs.Qxb6601560a.Walk
open Go.RowKit
set_option linter.unusedVariables false

/-- What ZZSize leaves behind a run of digits. -/
structure Sized (s a c : ByteArray) : Prop where
  less : a.size < s.size
  right : s.extract (s.size - a.size) s.size = a
  left : s.extract 0 (s.size - a.size) = c
  digits : Run c c.size
  ends : ∀ h : 0 < a.size, dg (a[0].toNat : Int) = false

theorem sized_of {s : ByteArray} {n : Nat} (h : DigAt s n) (hn : 0 < n) : Sized s (s.extract n s.size) (s.extract 0 n) := by
  have hs := h.1
  have e : s.size - (s.extract n s.size).size = n := by simp; omega
  refine ⟨by simp; omega, by rw [e], by rw [e], ?_, ?_⟩
  · intro j hj _
    have hj' : j < n := by rwa [ex_size s n hs] at hj
    rw [ex_get s n j hj (by omega)]
    exact h.2.1 j (by omega) hj'
  · intro h0
    have hlt : n < s.size := by
      simp at h0
      omega
    have := h.2.2 hlt
    simpa [ByteArray.getElem_extract] using this

set_option maxHeartbeats 1000000 in
theorem law7_dash (a0 : ByteArray) (a1 : Bool) (hlen : a0.size ≤ 1048576) (hp : 0 < a0.size) (h : ((a0[0].toNat : Int) == 45) = true) (w : World) :
    Calls Try.prog 7 #[.string a0, .bool a1] w fun e w' => e = .returned (.bool true) ∧ Below w.heap.size w w' := by
  have hZ := zzs_dash a0 a1 (by omega) hp h w
  have hd : decide ((0 : Int) < (a0.size : Int)) = true := decide_eq_true (by omega)
  go_enter Try.func7, Try.ntmps7
  go_wp2_with (first | (go_at_call 19; refine hZ.mono ?_; rintro e w' ⟨rfl, hg⟩) | (go_at_call 18; go_in))
  go_ret
  exact ⟨rfl, hg⟩

set_option maxHeartbeats 1000000 in
theorem law7_none (a0 : ByteArray) (a1 : Bool) (hlen : a0.size ≤ 1048576) (hb : NoSize a0) (w : World) :
    Calls Try.prog 7 #[.string a0, .bool a1] w fun e w' => e = .returned (.bool true) ∧ Below w.heap.size w w' := by
  have hZ := zzs_none a0 a1 (by omega) hb w
  by_cases hp : 0 < a0.size
  · obtain ⟨h1, h2⟩ := hb hp
    have hd : decide ((0 : Int) < (a0.size : Int)) = true := decide_eq_true (by omega)
    have hz : ((a0.size : Int) == 0) = false := beq_eq_false_iff_ne.2 (by omega)
    clear hb
    go_enter Try.func7, Try.ntmps7
    go_wp2_with (first | (go_at_call 19; refine hZ.mono ?_; rintro e w' ⟨rfl, hg⟩) | (go_at_call 20; refine (zzIsDigit_any _ _).mono ?_; rintro e w' ⟨rfl, rfl⟩) | (go_at_call 18; go_in))
    go_ret
    exact ⟨rfl, hg⟩
  · have hd : decide ((0 : Int) < (a0.size : Int)) = false := decide_eq_false (by omega)
    have hz : ((a0.size : Int) == 0) = true := beq_iff_eq.2 (by omega)
    clear hb
    go_enter Try.func7, Try.ntmps7
    go_wp2_with (first | (go_at_call 19; refine hZ.mono ?_; rintro e w' ⟨rfl, hg⟩) | (go_at_call 20; refine (zzIsDigit_any _ _).mono ?_; rintro e w' ⟨rfl, rfl⟩) | (go_at_call 18; go_in))
    go_ret
    exact ⟨rfl, hg⟩

set_option maxHeartbeats 1000000 in
theorem law7_some (a0 : ByteArray) (a1 : Bool) (hlen : a0.size ≤ 1048576) (hp : 0 < a0.size) (h : dg (a0[0].toNat : Int) = true) (w : World) :
    Calls Try.prog 7 #[.string a0, .bool a1] w fun e w' => e = .returned (.bool true) ∧ Below w.heap.size w w' := by
  have hZ : Calls Try.prog 19 #[.string a0, .bool a1] w fun e w' => ∃ a c, Sized a0 a c ∧ e = .returned (.tuple #[.string a, .bool a1]) ∧ Below w.heap.size w w' :=
    (zzs_some a0 a1 (by omega) hp h w).mono fun e w' ⟨n, hD, hn, he, hb⟩ => ⟨_, _, sized_of hD hn, he, hb⟩
  have h45 : ((a0[0].toNat : Int) == 45) = false := beq_eq_false_iff_ne.2 (by have := dg_yes h; omega)
  have hd2 : decide ((1048576 : Int) < (a0.size : Int)) = false := decide_eq_false (by omega)
  have hd : decide ((0 : Int) < (a0.size : Int)) = true := decide_eq_true (by omega)
  have hz : ((a0.size : Int) == 0) = false := beq_eq_false_iff_ne.2 (by omega)
  go_enter Try.func7, Try.ntmps7
  go_wp2_with (go_at_call 18; go_in)
  refine hZ.mono ?_
  rintro e w' ⟨a, c, hS, rfl, hg⟩
  obtain ⟨hless, hr, hl, hdig, hends⟩ := hS
  have hD : Hid (Run c c.size) := hdig
  have hcs : c.size ≤ 1048576 := by rw [← hl]; simp; omega
  have hd3 : decide (a0.size ≤ a.size) = false := decide_eq_false (by omega)
  clear hZ hdig
  go_wp2_with (first | (go_at_call 20; refine (zzIsDigit_any _ _).mono ?_; rintro e w' ⟨rfl, rfl⟩))
  go_loop [8] (fun i => ∃ k : Nat, k ≤ c.size ∧ i = .int .i64 k) (fun i => c.size - (intOf i).toNat)
  case atStart => exact ⟨0, Nat.zero_le _, rfl⟩
  case round =>
    obtain ⟨k, hk, rfl⟩ := hrel
    by_cases hlt : k < c.size
    · have hrs := hD.out k hlt hlt
      go_wp2_with (first | (go_at_call 20; refine (zzIsDigit_any _ _).mono ?_; rintro e w' ⟨rfl, rfl⟩))
      go_round
      case rel => exact ⟨k + 1, by omega, by go_num⟩
      case measure => simp [intOf]; omega
    · by_cases ha : a.size = 0
      · have hae := empty_yes ha
        clear ha
        go_wp2_with (first | (go_at_call 20; refine (zzIsDigit_any _ _).mono ?_; rintro e w' ⟨rfl, rfl⟩))
        go_ret
        exact ⟨rfl, hg⟩
      · have hap : 0 < a.size := by omega
        have hae := empty_no hap
        have has := hends hap
        clear ha hends
        go_wp2_with (first | (go_at_call 20; refine (zzIsDigit_any _ _).mono ?_; rintro e w' ⟨rfl, rfl⟩))
        go_ret
        exact ⟨rfl, hg⟩

set_option maxHeartbeats 1000000 in
theorem law7 (a0 : ByteArray) (a1 : Bool) (w0 : a0.size ≤ maxLen) (w : World) :
    Calls Try.prog 7 #[.string a0, .bool a1] w fun e w' => e = .returned (.bool true) ∧ Below w.heap.size w w' := by
  unfold maxLen at w0
  by_cases hlen : a0.size ≤ 1048576
  · by_cases hp : 0 < a0.size
    · cases h45 : ((a0[0].toNat : Int) == 45)
      · cases hd : dg (a0[0].toNat : Int)
        · exact law7_none a0 a1 hlen (fun _ => ⟨h45, hd⟩) w
        · exact law7_some a0 a1 hlen hp hd w
      · exact law7_dash a0 a1 hlen hp h45 w
    · exact law7_none a0 a1 hlen (fun h => absurd h hp) w
  · go_enter Try.func7, Try.ntmps7
    go_wp2
    go_ret
    exact ⟨rfl, Below.refl _ _⟩
end Go.Proofs.Qxb6601560a.Walk
