/-
  THE WALK OF FnTokenWholeAnswer.
-/
import Derived.Test.Qxb6601560aToken
namespace Go.Proofs.Qxb6601560a.Walk
open Go.RowKit
set_option linter.unusedVariables false

theorem empty_yes {s : ByteArray} (h : s.size = 0) : s.toList.isEmpty = true := by
  rw [ByteArray.toList_eq]
  have e := len_data s
  cases hl : s.data.toList with
  | nil => rfl
  | cons c l => rw [hl] at e; simp at e; omega
theorem empty_no {s : ByteArray} (h : 0 < s.size) : s.toList.isEmpty = false := by
  rw [ByteArray.toList_eq]
  have e := len_data s
  cases hl : s.data.toList with
  | nil => rw [hl] at e; simp at e; omega
  | cons c l => rfl

set_option maxHeartbeats 1000000 in
theorem law3_blank (a0 : ByteArray) (a1 : Bool) (hlen : a0.size ≤ 1048576) (hb : Blank a0) (w : World) :
    Calls Try.prog 3 #[.string a0, .bool a1] w fun e w' => e = .returned (.bool true) ∧ Below w.heap.size w w' := by
  by_cases h0 : a0.size = 0
  · have hz : ((a0.size : Int) == 0) = true := beq_iff_eq.2 (by omega)
    have hZ := zzt_no a0 a1 (by omega) hb w
    clear h0 hb
    go_enter Try.func3, Try.ntmps3
    go_wp2_with (first | (go_at_call 10; refine hZ.mono ?_; rintro e w' ⟨rfl, hg⟩) | go_in)
    go_ret
    exact ⟨rfl, hg⟩
  · have hp : 0 < a0.size := by omega
    have hz : ((a0.size : Int) == 0) = false := beq_eq_false_iff_ne.2 (by omega)
    have hsp := hb hp
    have hZ := zzt_no a0 a1 (by omega) hb w
    clear h0 hb
    go_enter Try.func3, Try.ntmps3
    go_wp2_with (first | (go_at_call 10; refine hZ.mono ?_; rintro e w' ⟨rfl, hg⟩) | (go_at_call 11; refine (zzIsSpace_any _ _).mono ?_; rintro e w' ⟨rfl, rfl⟩) | go_in)
    go_ret
    exact ⟨rfl, hg⟩

set_option maxHeartbeats 1000000 in
theorem law3_field (a0 : ByteArray) (a1 : Bool) (hlen : a0.size ≤ 1048576) (hp : 0 < a0.size) (hsp : sp (a0[0].toNat : Int) = false) (w : World) :
    Calls Try.prog 3 #[.string a0, .bool a1] w fun e w' => e = .returned (.bool true) ∧ Below w.heap.size w w' := by
  have hz : ((a0.size : Int) == 0) = false := beq_eq_false_iff_ne.2 (by omega)
  have hZ := zzt_yes a0 a1 (by omega) hp hsp w
  go_enter Try.func3, Try.ntmps3
  go_wp2_with (go_at_call 9; go_in)
  refine hZ.mono ?_
  rintro e w' ⟨r, a, hS, rfl, hg⟩
  obtain ⟨hl, hr, hsum, hpos, hfree, hends, hsame, hbehind⟩ := hS
  have hs1 : r.size + a.size ≤ a0.size := by omega
  have hs2 : a0.size ≤ r.size + a.size := by omega
  have hre := empty_no hpos
  have hF : Hid (Free r r.size) := hfree
  clear hsum hsame hbehind hZ hfree
  go_wp2_with (first | (go_at_call 11; refine (zzIsSpace_any _ _).mono ?_; rintro e w' ⟨rfl, rfl⟩))
  go_loop [8] (fun i => ∃ k : Nat, k ≤ r.size ∧ i = .int .i64 k) (fun i => r.size - (intOf i).toNat)
  case atStart => exact ⟨0, Nat.zero_le _, rfl⟩
  case round =>
    obtain ⟨k, hk, rfl⟩ := hrel
    by_cases hlt : k < r.size
    · have hrs := hF.out k hlt hlt
      go_wp2_with (first | (go_at_call 11; refine (zzIsSpace_any _ _).mono ?_; rintro e w' ⟨rfl, rfl⟩))
      go_round
      case rel => exact ⟨k + 1, by omega, by go_num⟩
      case measure => simp [intOf]; omega
    · by_cases ha : a.size = 0
      · have hae := empty_yes ha
        clear ha
        go_wp2_with (first | (go_at_call 11; refine (zzIsSpace_any _ _).mono ?_; rintro e w' ⟨rfl, rfl⟩))
        go_ret
        exact ⟨rfl, hg⟩
      · have hap : 0 < a.size := by omega
        have hae := empty_no hap
        have has := hends hap
        clear ha hends
        go_wp2_with (first | (go_at_call 11; refine (zzIsSpace_any _ _).mono ?_; rintro e w' ⟨rfl, rfl⟩))
        go_ret
        exact ⟨rfl, hg⟩

set_option maxHeartbeats 1000000 in
theorem law3 (a0 : ByteArray) (a1 : Bool) (w0 : a0.size ≤ maxLen) (w : World) :
    Calls Try.prog 3 #[.string a0, .bool a1] w fun e w' => e = .returned (.bool true) ∧ Below w.heap.size w w' := by
  unfold maxLen at w0
  by_cases hlen : a0.size ≤ 1048576
  · by_cases hp : 0 < a0.size
    · cases hsp : sp (a0[0].toNat : Int)
      · exact law3_field a0 a1 hlen hp hsp w
      · exact law3_blank a0 a1 hlen (fun _ => hsp) w
    · exact law3_blank a0 a1 hlen (fun h => absurd h hp) w
  · go_enter Try.func3, Try.ntmps3
    go_wp2
    go_ret
    exact ⟨rfl, Below.refl _ _⟩
end Go.Proofs.Qxb6601560a.Walk
