/-
  THE WALKS OF ZZdistance, zzHamming, FnDistanceSymmetricAndBounded.
-/
import Derived.Test.Qxb6602101aDist
namespace Go.Proofs.Qxb6602101a.Walk
open Go.RowKit Lev
set_option linter.unusedVariables false

set_option maxHeartbeats 400000 in
theorem zzd_any (a b : ByteArray) (ha : a.size ≤ 1024) (hb : b.size ≤ 1024) (d : Nat) (hd : Hid (d = lev a.data.toList b.data.toList)) (w : World) :
    Calls Try.prog 7 #[.string a, .string b] w fun e w' => e = .returned (.int .i64 (d : Int)) ∧ Below w.heap.size w w' := by
  have hD := distance_any a b ha hb w
  rw [← hd.out] at hD
  go_enter Try.func7, Try.ntmps7
  go_wp2_with (go_at_call 12; refine hD.mono ?_; rintro e w' ⟨rfl, hbe⟩)
  go_ret
  exact ⟨rfl, hbe⟩

set_option maxHeartbeats 1000000 in
theorem hamming_any (a b : ByteArray) (ha : a.size ≤ 1024) (hs : a.size ≤ b.size) (hs2 : b.size ≤ a.size) (w : World) :
    Calls Try.prog 10 #[.string a, .string b] w fun e w' => e = .returned (.int .i64 (H a b a.size : Int)) ∧ Below w.heap.size w w' := by
  go_enter Try.func10, Try.ntmps10
  go_wp2_with fail
  go_loopw [5, 6] (fun cv iv wr => ∃ k c : Nat, k ≤ a.size ∧ iv = .int .i64 k ∧ cv = .int .i64 c ∧ Hid (c = H a b k) ∧ c ≤ k ∧ Below w.heap.size w wr) (fun _ iv _ => a.size - (intOf iv).toNat)
  case atStart => exact ⟨0, 0, Nat.zero_le _, rfl, rfl, (H_zero a b).symm, Nat.le_refl _, Below.refl _ _⟩
  case round =>
    obtain ⟨k, c, hk, rfl, rfl, hc, hck, hbe⟩ := hrel
    by_cases hlt : k < a.size
    · have hlt2 : k < b.size := by omega
      have hst := H_step a b k (by omega) hlt hlt2
      rw [← hc.out] at hst
      cases hab : ((a[k].toNat : Int) == (b[k].toNat : Int))
      · have hc' : Hid (c + 1 = H a b (k + 1)) := by rw [cost_no hab] at hst; exact hst.symm
        have hab' : ((a[k].toNat : Int) != (b[k].toNat : Int)) = true := by simp only [bne, hab]; rfl
        clear hst hc
        go_wp2
        go_quiet (fail)
        go_wp2
        go_roundw
        case rel => exact ⟨k + 1, c + 1, by omega, by go_num, by go_num, hc', by omega, below_drewN hbe _⟩
        case measure => simp [intOf]; omega
      · have hc' : Hid (c = H a b (k + 1)) := by rw [cost_yes hab] at hst; exact hst.symm
        have hab' : ((a[k].toNat : Int) != (b[k].toNat : Int)) = false := by simp only [bne, hab]; rfl
        clear hst hc
        go_wp2
        go_quiet (fail)
        go_wp2
        go_roundw
        case rel => exact ⟨k + 1, c, by omega, by go_num, by go_num, hc', by omega, below_drewN hbe _⟩
        case measure => simp [intOf]; omega
    · obtain rfl : k = a.size := by omega
      go_wp2
      go_ret
      exact ⟨congrArg (fun n : Nat => Ending.returned (.int .i64 (n : Int))) hc.out, hbe⟩

theorem toList_ne {a b : ByteArray} (h : a ≠ b) : (a.toList == b.toList) = false := by
  rw [beq_eq_false_iff_ne]
  intro e
  rw [ByteArray.toList_eq, ByteArray.toList_eq] at e
  exact h (ByteArray.ext (Array.toList_inj.1 e))

set_option maxHeartbeats 2000000 in
theorem law4_main (a b : ByteArray) (ha : a.size ≤ 1024) (hb : b.size ≤ 1024) (w : World) :
    Calls Try.prog 4 #[.string a, .string b] w fun e w' => e = .returned (.bool true) ∧ Below w.heap.size w w' := by
  obtain ⟨d, hd⟩ : ∃ d : Nat, d = lev a.data.toList b.data.toList := ⟨_, rfl⟩
  have h1 := fun wx => zzd_any a b ha hb d hd wx
  have h2 := fun wx => zzd_any b a hb ha d (show d = _ by rw [hd]; exact lev_comm _ _) wx
  have hlo := lev_lower a.data.toList b.data.toList
  have hup := lev_upper a.data.toList b.data.toList
  have hz := lev_zero a.data.toList b.data.toList
  rw [← hd] at hlo hup hz
  rw [len_data, len_data] at hlo hup
  obtain ⟨hlo1, hlo2⟩ := hlo
  have hdm : d ≤ 1024 := by omega
  by_cases hab : a = b
  · subst hab
    have hd0 : ((d : Int) == 0) = true := beq_iff_eq.2 (by have := hz.2 rfl; omega)
    have hdz : d ≤ 0 := by have := hz.2 rfl; omega
    have hH := fun wx => hamming_any a a ha (Nat.le_refl _) (Nat.le_refl _) wx
    clear hz hd hup hlo1 hlo2 hdm
    go_enter Try.func4, Try.ntmps4
    go_wp2_with (go_at_call 9; go_in)
    refine (h1 _).mono ?_
    rintro e w1 ⟨rfl, hb1⟩
    go_wp2_with fail
    refine (h1 _).mono ?_
    rintro e w2 ⟨rfl, hb2⟩
    have hb3 := hb1.trans (hb2.mono hb1.size)
    clear hb1 hb2 h1 h2
    go_wp2_with (go_at_call 10; refine (hH _).mono ?_; rintro e w4 ⟨rfl, hb4⟩)
    go_ret
    exact ⟨rfl, hb3.trans (hb4.mono hb3.size)⟩
  · have hdn : ¬ d = 0 := fun e => hab (ByteArray.ext (Array.toList_inj.1 (hz.1 e)))
    have hd0 : ((d : Int) == 0) = false := beq_eq_false_iff_ne.2 (by omega)
    have hne := toList_ne hab
    rcases Nat.lt_trichotomy a.size b.size with hc | hc | hc
    · have hes : ((a.size : Int) == (b.size : Int)) = false := beq_eq_false_iff_ne.2 (by omega)
      clear hz hd hab hdn
      go_enter Try.func4, Try.ntmps4
      go_wp2_with (go_at_call 9; go_in)
      refine (h1 _).mono ?_
      rintro e w1 ⟨rfl, hb1⟩
      go_wp2_with fail
      refine (h2 _).mono ?_
      rintro e w2 ⟨rfl, hb2⟩
      have hb3 := hb1.trans (hb2.mono hb1.size)
      clear hb1 hb2 h1 h2
      go_wp2_with fail
      go_ret
      exact ⟨rfl, hb3⟩
    · have hes : ((a.size : Int) == (b.size : Int)) = true := beq_iff_eq.2 (by omega)
      have hH := fun wx => hamming_any a b ha (by omega) (by omega) wx
      have hHf := H_full a b hc
      rw [← hd] at hHf
      obtain ⟨g, hg⟩ : ∃ g : Nat, g = H a b a.size := ⟨_, rfl⟩
      rw [← hg] at hH hHf
      have hc1 : a.size ≤ b.size := by omega
      have hc2 : b.size ≤ a.size := by omega
      clear hz hd hab hdn hc hg
      go_enter Try.func4, Try.ntmps4
      go_wp2_with (go_at_call 9; go_in)
      refine (h1 _).mono ?_
      rintro e w1 ⟨rfl, hb1⟩
      go_wp2_with fail
      refine (h2 _).mono ?_
      rintro e w2 ⟨rfl, hb2⟩
      have hb3 := hb1.trans (hb2.mono hb1.size)
      clear hb1 hb2 h1 h2
      go_wp2_with (go_at_call 10; refine (hH _).mono ?_; rintro e w4 ⟨rfl, hb4⟩)
      go_ret
      exact ⟨rfl, hb3.trans (hb4.mono hb3.size)⟩
    · have hes : ((a.size : Int) == (b.size : Int)) = false := beq_eq_false_iff_ne.2 (by omega)
      clear hz hd hab hdn
      go_enter Try.func4, Try.ntmps4
      go_wp2_with (go_at_call 9; go_in)
      refine (h1 _).mono ?_
      rintro e w1 ⟨rfl, hb1⟩
      go_wp2_with fail
      refine (h2 _).mono ?_
      rintro e w2 ⟨rfl, hb2⟩
      have hb3 := hb1.trans (hb2.mono hb1.size)
      clear hb1 hb2 h1 h2
      go_wp2_with fail
      go_ret
      exact ⟨rfl, hb3⟩

set_option maxHeartbeats 2000000 in
theorem law4 (a b : ByteArray) (w0 : a.size ≤ maxLen) (w1 : b.size ≤ maxLen) (w : World) :
    Calls Try.prog 4 #[.string a, .string b] w fun e w' => e = .returned (.bool true) ∧ Below w.heap.size w w' := by
  unfold maxLen at w0 w1
  by_cases h : a.size ≤ 1024 ∧ b.size ≤ 1024
  · exact law4_main a b h.1 h.2 w
  · go_enter Try.func4, Try.ntmps4
    go_wp2
    all_goals (go_ret; exact ⟨rfl, Below.refl _ _⟩)
end Go.Proofs.Qxb6602101a.Walk
