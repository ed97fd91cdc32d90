/-
  THE WALK OF FnQuotedReadsEscapedValueWhole.
-/
import Derived.Test.Qxb6601560aQuoted
import Derived.Test.Qxb6601560aEscape
namespace Go.Proofs.Qxb6601560a.Walk
open Go.RowKit
set_option linter.unusedVariables false

theorem ba_left (a b : ByteArray) : (a ++ b).extract 0 a.size = a := by
  apply ByteArray.ext
  simp [ByteArray.data_extract, ByteArray.data_append]
theorem ba_right (a b : ByteArray) : (a ++ b).extract a.size (a ++ b).size = b := by
  apply ByteArray.ext
  rw [ByteArray.data_extract, ByteArray.data_append, Array.extract_append]
  have e1 : a.data.size = a.size := rfl
  have e2 : b.data.size = b.size := rfl
  simp [e1]
  rw [Array.extract_eq_empty_of_le (by rw [e1]; omega), ← e2]
  simp
theorem ba_list (a b : ByteArray) : (a ++ b).data.toList = a.data.toList ++ b.data.toList := by
  simp [ByteArray.data_append]

/-- ZZQuoted at an escaped body, a closing quote and a tail. -/
theorem zzq_esc (v : List UInt8) (bd tl : ByteArray) (f : Bool) (hb : bd = ⟨(Pl.esc v).toArray⟩) (hs : bd.size + 1 + tl.size ≤ 1100000) (w : World) :
    Calls Try.prog 14 #[.string (bd ++ ⟨#[34]⟩ ++ tl), .bool f] w fun e w' => e = .returned (.tuple #[.string bd, .string (⟨#[34]⟩ ++ tl), .bool f]) ∧ Below w.heap.size w w' := by
  have hq : Pl.qe (bd ++ ⟨#[34]⟩ ++ tl).data.toList false = some bd.size := by
    rw [ba_list, ba_list, hb]
    show Pl.qe (Pl.esc v ++ [34] ++ tl.data.toList) false = _
    rw [List.append_assoc]
    exact Pl.qe_esc v tl.data.toList
  have hsz : (bd ++ ⟨#[34]⟩ ++ tl).size ≤ 1100000 := by
    rw [ByteArray.size_append, ByteArray.size_append]
    exact hs
  have h := zzq_yes (bd ++ (⟨#[34]⟩ : ByteArray) ++ tl) f hsz bd.size hq w
  rw [ByteArray.append_assoc, ba_left, ba_right] at h
  rw [ByteArray.append_assoc]
  exact h.mono fun e w' ⟨a, _, c⟩ => ⟨a, c⟩

set_option maxHeartbeats 1000000 in
theorem law6 (a0 : ByteArray) (a1 : ByteArray) (a2 : Bool) (w0 : a0.size ≤ maxLen) (w1 : a1.size ≤ maxLen) (w : World) :
    Calls Try.prog 6 #[.string a0, .string a1, .bool a2] w fun e w' => e = .returned (.bool true) ∧ Below w.heap.size w w' := by
  unfold maxLen at w0 w1
  by_cases hlen : a0.size + a1.size ≤ 524288
  · obtain ⟨bd, hbd⟩ : ∃ bd : ByteArray, bd = ⟨(Pl.esc a0.data.toList).toArray⟩ := ⟨_, rfl⟩
    have hE := escape_any a0 (by omega) w
    rw [← hbd] at hE
    have hsz : bd.size ≤ 2 * a0.size := by
      rw [hbd]
      have := Pl.esc_len a0.data.toList
      rw [len_data] at this
      exact this
    have H : Hid (bd = ⟨(Pl.esc a0.data.toList).toArray⟩) := hbd
    clear hbd
    go_enter Try.func6, Try.ntmps6
    go_wp2_with (first | (go_at_call 17; refine hE.mono ?_; rintro e w' ⟨rfl, hb⟩) | (go_at_call 16; go_in))
    refine (zzq_esc a0.data.toList bd a1 a2 H.out (by omega) _).mono ?_
    rintro e w2 ⟨rfl, hb2⟩
    have hb3 := hb.trans (hb2.mono hb.size)
    clear hb hb2 hE
    go_wp2
    go_ret
    exact ⟨rfl, hb3⟩
  · go_enter Try.func6, Try.ntmps6
    go_wp2
    all_goals (go_ret; exact ⟨rfl, Below.refl _ _⟩)
end Go.Proofs.Qxb6601560a.Walk
