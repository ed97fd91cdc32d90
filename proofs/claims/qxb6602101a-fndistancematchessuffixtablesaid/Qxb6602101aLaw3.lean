/-
  THE WALK OF FnDistanceMatchesSuffixTable.
-/
import Derived.Test.Qxb6602101aSuffix
namespace Go.Proofs.Qxb6602101a.Walk
open Go.RowKit Lev
set_option linter.unusedVariables false

set_option maxHeartbeats 400000 in
theorem zzd_at (a b : ByteArray) (ha : a.size ≤ 1024) (hb : b.size ≤ 1024) (d : Nat) (hd : Hid (d = lev a.data.toList b.data.toList)) (w : World) :
    Calls Try.prog 7 #[.string a, .string b] w fun e w' => e = .returned (.int .i64 (d : Int)) ∧ Below w.heap.size w w' := by
  have hD := distance_any a b ha hb w
  rw [← hd.out] at hD
  go_enter Try.func7, Try.ntmps7
  go_wp2_with (go_at_call 12; refine hD.mono ?_; rintro e w' ⟨rfl, hbe⟩)
  go_ret
  exact ⟨rfl, hbe⟩

set_option maxHeartbeats 1000000 in
theorem law3 (a b : ByteArray) (w0 : a.size ≤ maxLen) (w1 : b.size ≤ maxLen) (w : World) :
    Calls Try.prog 3 #[.string a, .string b] w fun e w' => e = .returned (.bool true) ∧ Below w.heap.size w w' := by
  unfold maxLen at w0 w1
  by_cases h : a.size ≤ 1024 ∧ b.size ≤ 1024
  · obtain ⟨ha, hb⟩ := h
    obtain ⟨d, hd⟩ : ∃ d : Nat, d = lev a.data.toList b.data.toList := ⟨_, rfl⟩
    have h1 := fun wx => zzd_at a b ha hb d hd wx
    have h2 := fun wx => suffix_any a b ha hb wx
    rw [← hd] at h2
    clear hd
    go_enter Try.func3, Try.ntmps3
    go_wp2_with (go_at_call 6; go_in)
    refine (h1 _).mono ?_
    rintro e wA ⟨rfl, hb1⟩
    go_wp2_with fail
    refine (h2 _).mono ?_
    rintro e wB ⟨rfl, hb2⟩
    have hb3 := hb1.trans (hb2.mono hb1.size)
    clear hb1 hb2 h1 h2
    go_wp2_with fail
    go_ret
    exact ⟨rfl, hb3⟩
  · go_enter Try.func3, Try.ntmps3
    go_wp2
    all_goals (go_ret; exact ⟨rfl, Below.refl _ _⟩)
end Go.Proofs.Qxb6602101a.Walk
