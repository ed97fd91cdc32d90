/-
  THE WALK OF FnSizeReadsWrittenSize.
-/
import Derived.Test.Qxb6601560aUtoa
import Derived.OpenShut
namespace Go.Proofs.Qxb6601560a.Walk
open Go.RowKit
set_option linter.unusedVariables false

theorem bb_right (a b : ByteArray) : (a ++ b).extract a.size (a ++ b).size = b := by
  apply ByteArray.ext
  rw [ByteArray.data_extract, ByteArray.data_append, Array.extract_append]
  have e1 : a.data.size = a.size := rfl
  have e2 : b.data.size = b.size := rfl
  simp [e1]
  rw [Array.extract_eq_empty_of_le (by rw [e1]; omega), ← e2]
  simp
theorem bb_left (a b : ByteArray) (j : Nat) (h : j < a.size) (h' : j < (a ++ b).size) : (a ++ b)[j] = a[j] := ByteArray.getElem_append_left h
theorem bb_behind (a b : ByteArray) (h : 0 < b.size) (h' : a.size < (a ++ b).size) : (a ++ b)[a.size] = b[0] := by
  rw [ByteArray.getElem_append_right (Nat.le_refl _)]
  simp

/-- ZZSize at a dash and a tail. -/
theorem zzs_tail (tl : ByteArray) (f : Bool) (hs : tl.size ≤ 1048576) (w : World) :
    Calls Try.prog 19 #[.string (⟨#[45]⟩ ++ tl), .bool f] w fun e w' => e = .returned (.tuple #[.string tl, .bool f]) ∧ Below w.heap.size w w' := by
  have hsz : ((⟨#[45]⟩ : ByteArray) ++ tl).size = 1 + tl.size := ByteArray.size_append
  have hp : 0 < ((⟨#[45]⟩ : ByteArray) ++ tl).size := by omega
  have h0 : ((⟨#[45]⟩ : ByteArray) ++ tl)[0] = 45 := bb_left ⟨#[45]⟩ tl 0 (by decide) hp
  have h := zzs_dash (⟨#[45]⟩ ++ tl) f (by omega) hp (by rw [h0]; rfl) w
  have e := bb_right ⟨#[45]⟩ tl
  rw [show (⟨#[45]⟩ : ByteArray).size = 1 from rfl] at e
  rw [e] at h
  exact h

/-- ZZSize at digits and a tail that opens with none. -/
theorem zzs_digits (u tl : ByteArray) (f : Bool) (hu : 0 < u.size) (hu2 : u.size ≤ 20) (hr : Run u u.size) (ht : ∀ h : 0 < tl.size, dg (tl[0].toNat : Int) = false) (hs : tl.size ≤ 1048576) (w : World) :
    Calls Try.prog 19 #[.string (u ++ tl), .bool f] w fun e w' => e = .returned (.tuple #[.string tl, .bool f]) ∧ Below w.heap.size w w' := by
  have hsz : (u ++ tl).size = u.size + tl.size := ByteArray.size_append
  have hp : 0 < (u ++ tl).size := by omega
  have h0 : (u ++ tl)[0] = u[0] := bb_left u tl 0 hu hp
  refine (zzs_some (u ++ tl) f (by omega) hp (by rw [h0]; exact hr 0 hu hu) w).mono ?_
  rintro e w' ⟨n, ⟨hn1, hn2, hn3⟩, hn0, he, hb⟩
  have hn : n = u.size := by
    rcases Nat.lt_trichotomy n u.size with h | h | h
    · have h1 := hn3 (by omega)
      rw [bb_left u tl n h (by omega), hr n h h] at h1
      exact absurd h1 (by decide)
    · exact h
    · have hlt : 0 < tl.size := by omega
      have h1 := hn2 u.size (by omega) h
      rw [bb_behind u tl hlt (by omega), ht hlt] at h1
      exact absurd h1 (by decide)
  subst hn
  rw [bb_right] at he
  exact ⟨he, hb⟩

set_option maxHeartbeats 1000000 in
theorem law8_none (n : Int) (tl : ByteArray) (f : Bool) (hs : tl.size ≤ 1048576) (w : World) :
    Calls Try.prog 8 #[.int .u64 n, .bool true, .string tl, .bool f] w fun e w' => e = .returned (.bool true) ∧ Below w.heap.size w w' := by
  go_enter Try.func8, Try.ntmps8
  go_wp2_with (go_at_call 21; go_in)
  refine (zzs_tail tl f hs _).mono ?_
  rintro e w' ⟨rfl, hb⟩
  go_wp2
  go_ret
  exact ⟨rfl, hb⟩

set_option maxHeartbeats 1000000 in
theorem law8_skip (n : Int) (tl : ByteArray) (f : Bool) (hs : tl.size ≤ 1048576) (hp : 0 < tl.size) (hd : dg (tl[0].toNat : Int) = true) (w : World) :
    Calls Try.prog 8 #[.int .u64 n, .bool false, .string tl, .bool f] w fun e w' => e = .returned (.bool true) ∧ Below w.heap.size w w' := by
  have he := empty_no hp
  go_enter Try.func8, Try.ntmps8
  go_wp2_with (first | (go_at_call 20; refine (zzIsDigit_any _ _).mono ?_; rintro e w' ⟨rfl, rfl⟩) | (go_at_call 21; go_in))
  go_ret
  exact ⟨rfl, Below.refl _ _⟩

set_option maxHeartbeats 1000000 in
theorem law8_digits (n : Nat) (hn : n ≤ 18446744073709551615) (tl : ByteArray) (f : Bool) (hs : tl.size ≤ 1048576) (ht : ∀ h : 0 < tl.size, dg (tl[0].toNat : Int) = false) (w : World) :
    Calls Try.prog 8 #[.int .u64 n, .bool false, .string tl, .bool f] w fun e w' => e = .returned (.bool true) ∧ Below w.heap.size w w' := by
  have hU := fun wx => utoa_any n hn wx
  by_cases hp : 0 < tl.size
  · have he := empty_no hp
    have hd := ht hp
    go_enter Try.func8, Try.ntmps8
    go_wp2_with (first | (go_at_call 20; refine (zzIsDigit_any _ _).mono ?_; rintro e w' ⟨rfl, rfl⟩) | (go_at_call 21; go_in))
    refine (hU _).mono ?_
    rintro e w1 ⟨u, rfl, hu1, hu2, hr, hb1⟩
    have hr' : Hid (Run u u.size) := hr
    have ht' : Hid (∀ h : 0 < tl.size, dg (tl[0].toNat : Int) = false) := ht
    clear hU hr ht
    go_wp2_with fail
    refine (zzs_digits u tl f hu1 hu2 hr'.out ht'.out hs _).mono ?_
    rintro e w2 ⟨rfl, hb2⟩
    have hb := hb1.trans (hb2.mono hb1.size)
    clear hb1 hb2
    go_wp2
    go_ret
    exact ⟨rfl, hb⟩
  · have he := empty_yes (s := tl) (by omega)
    go_enter Try.func8, Try.ntmps8
    go_wp2_with (first | (go_at_call 20; refine (zzIsDigit_any _ _).mono ?_; rintro e w' ⟨rfl, rfl⟩) | (go_at_call 21; go_in))
    refine (hU _).mono ?_
    rintro e w1 ⟨u, rfl, hu1, hu2, hr, hb1⟩
    have hr' : Hid (Run u u.size) := hr
    have ht' : Hid (∀ h : 0 < tl.size, dg (tl[0].toNat : Int) = false) := ht
    clear hU hr ht
    go_wp2_with fail
    refine (zzs_digits u tl f hu1 hu2 hr'.out ht'.out hs _).mono ?_
    rintro e w2 ⟨rfl, hb2⟩
    have hb := hb1.trans (hb2.mono hb1.size)
    clear hb1 hb2
    go_wp2
    go_ret
    exact ⟨rfl, hb⟩

set_option maxHeartbeats 1000000 in
theorem law8 (a0 : Int) (a1 : Bool) (a2 : ByteArray) (a3 : Bool) (w0 : (Lit.int .u64 a0).wf = true) (w2 : a2.size ≤ maxLen) (w : World) :
    Calls Try.prog 8 #[.int .u64 a0, .bool a1, .string a2, .bool a3] w fun e w' => e = .returned (.bool true) ∧ Below w.heap.size w w' := by
  unfold maxLen at w2
  by_cases hlen : a2.size ≤ 1048576
  · cases a1
    · have hb := bounds_u64 w0
      obtain ⟨n, rfl⟩ := Int.eq_ofNat_of_zero_le hb.1
      by_cases hp : 0 < a2.size
      · cases hd : dg (a2[0].toNat : Int)
        · exact law8_digits n (by omega) a2 a3 hlen (fun _ => hd) w
        · exact law8_skip n a2 a3 hlen hp hd w
      · exact law8_digits n (by omega) a2 a3 hlen (fun h => absurd h hp) w
    · exact law8_none a0 a2 a3 hlen w
  · go_enter Try.func8, Try.ntmps8
    go_wp2
    go_ret
    exact ⟨rfl, Below.refl _ _⟩
end Go.Proofs.Qxb6601560a.Walk
