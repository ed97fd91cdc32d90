/-
  THE WALKS OF zzIsDigit, digits, strings.CutPrefix (at a dash), size, ZZSize.
-/
import Derived.Test.Qxb6601560aLaw3
namespace Go.Proofs.Qxb6601560a.Walk
open Go.RowKit
set_option linter.unusedVariables false

/-- A digit. -/
def dg (n : Int) : Bool := decide (48 ≤ n) && decide (n ≤ 57)
theorem dg_yes {n : Int} (h : dg n = true) : 48 ≤ n ∧ n ≤ 57 := by
  simpa [dg] using h
theorem dg_no {n : Int} (h : dg n = false) : n < 48 ∨ 57 < n := by
  simp [dg] at h
  omega
theorem dg_of {n : Int} (h1 : 48 ≤ n) (h2 : n ≤ 57) : dg n = true := by
  simp [dg]; omega

set_option maxHeartbeats 1000000 in
theorem zzIsDigit_any (n : Int) (w : World) : Calls Try.prog 20 #[.int .u8 n] w fun e w' => e = .returned (.bool (dg n)) ∧ w = w' := by
  cases h : dg n
  · rcases dg_no h with h1 | h1
    · have hd : decide (48 ≤ n) = false := by simp; omega
      clear h
      go_enter Try.func20, Try.ntmps20
      go_wp2
      go_ret
      exact ⟨rfl, rfl⟩
    · have h2 : 48 ≤ n := by omega
      have hd : decide (n ≤ 57) = false := by simp; omega
      clear h
      go_enter Try.func20, Try.ntmps20
      go_wp2
      go_ret
      exact ⟨rfl, rfl⟩
  · obtain ⟨h1, h2⟩ := dg_yes h
    clear h
    go_enter Try.func20, Try.ntmps20
    go_wp2
    go_ret
    exact ⟨rfl, rfl⟩

/-- Digits alone ahead of place k. -/
def Run (s : ByteArray) (k : Nat) : Prop := ∀ j (h : j < s.size), j < k → dg (s[j].toNat : Int) = true
theorem run_zero (s : ByteArray) : Run s 0 := fun j _ h => absurd h (by omega)
theorem run_succ {s : ByteArray} {k : Nat} (h : Run s k) (hk : k < s.size) (hs : dg (s[k].toNat : Int) = true) : Run s (k + 1) := by
  intro j hj hjk
  by_cases e : j = k
  · subst e; exact hs
  · exact h j hj (by omega)
/-- The digits end at n. -/
def DigAt (s : ByteArray) (n : Nat) : Prop := n ≤ s.size ∧ Run s n ∧ ∀ h : n < s.size, dg (s[n].toNat : Int) = false

set_option maxHeartbeats 1000000 in
theorem digits_any (b : Nat) (s : ByteArray) (hs : s.size ≤ 1100000) (w : World) (h1 : w.cell? ⟨b, 0, none⟩ = some (.string s)) (h3 : w.frozen? ⟨b, 0, none⟩ = false) :
    Calls Try.prog 30 #[.pointer (some ⟨b, 0, none⟩)] w fun e w' =>
      ∃ n, DigAt s n ∧ e = .returned (.string (s.extract 0 n)) ∧ w' = w.setCell ⟨b, 0, none⟩ (.string (s.extract n s.size)) := by
  go_enter Try.func30, Try.ntmps30
  go_wp2_with fail
  go_loop [3] (fun i => ∃ k : Nat, k ≤ s.size ∧ i = .int .i64 k ∧ Run s k) (fun i => s.size - (intOf i).toNat)
  case atStart => exact ⟨0, Nat.zero_le _, rfl, run_zero s⟩
  case round =>
    obtain ⟨k, hk, rfl, hat⟩ := hrel
    by_cases hlt : k < s.size
    · cases hd : dg (s[k].toNat : Int)
      · have hT : DigAt s k := ⟨hk, hat, fun _ => hd⟩
        rcases dg_no hd with hx | hx
        · have hxx : decide ((48 : Int) ≤ (s[k].toNat : Int)) = false := by simp; omega
          clear hd hat
          go_wp2_with (go_at_call 28; refine (next_any _ _ _ hk (by omega) _ h1 h3).mono ?_; rintro e w' ⟨rfl, rfl⟩)
          go_ret
          exact ⟨k, hT, rfl, rfl⟩
        · have hx2 : (48 : Int) ≤ (s[k].toNat : Int) := by omega
          have hxx : decide ((s[k].toNat : Int) ≤ 57) = false := by simp; omega
          clear hd hat
          go_wp2_with (go_at_call 28; refine (next_any _ _ _ hk (by omega) _ h1 h3).mono ?_; rintro e w' ⟨rfl, rfl⟩)
          go_ret
          exact ⟨k, hT, rfl, rfl⟩
      · have hr := run_succ hat hlt hd
        obtain ⟨hx1, hx2⟩ := dg_yes hd
        clear hd hat
        go_wp2_with (go_at_call 28; refine (next_any _ _ _ hk (by omega) _ h1 h3).mono ?_; rintro e w' ⟨rfl, rfl⟩)
        go_round
        case rel => exact ⟨k + 1, by omega, by go_num, hr⟩
        case measure => simp [intOf]; omega
    · have hT : DigAt s k := ⟨hk, hat, fun h => absurd h hlt⟩
      have hxx : decide ((k : Int) < (s.size : Int)) = false := by simp; omega
      clear hat
      go_wp2_with (go_at_call 28; refine (next_any _ _ _ hk (by omega) _ h1 h3).mono ?_; rintro e w' ⟨rfl, rfl⟩)
      go_ret
      exact ⟨k, hT, rfl, rfl⟩

theorem list_one : ∀ (l : List UInt8) (h : 0 < l.length), l.extract 0 1 = [l[0]]
  | [], h => absurd h (by simp)
  | c :: l, _ => by simp [List.extract]
theorem first_one {s : ByteArray} (hp : 0 < s.size) : (s.extract 0 1).toList = [s[0]] := by
  rw [ByteArray.toList_eq, ByteArray.data_extract, Array.toList_extract, list_one _ (by rw [len_data]; exact hp), at_byte s 0 hp]
theorem dash_yes {s : ByteArray} (hp : 0 < s.size) (h : ((s[0].toNat : Int) == 45) = true) : ((s.extract 0 1).toList == [45]) = true := by
  rw [first_one hp, by_yes 45 h rfl]
  rfl
theorem dash_no {s : ByteArray} (hp : 0 < s.size) (h : ((s[0].toNat : Int) == 45) = false) : ((s.extract 0 1).toList == [45]) = false := by
  rw [first_one hp, beq_eq_false_iff_ne]
  intro e
  exact by_no 45 h rfl (by simpa using e)

set_option maxHeartbeats 1000000 in
theorem cut_yes (s : ByteArray) (hs : s.size ≤ 1100000) (hp : 0 < s.size) (h : ((s[0].toNat : Int) == 45) = true) (w : World) :
    Calls Try.prog 29 #[.string s, .string ⟨#[45]⟩] w fun e w' => e = .returned (.tuple #[.string (s.extract 1 s.size), .bool true]) ∧ w = w' := by
  have hx := dash_yes hp h
  have hp1 : 1 ≤ s.size := hp
  clear h
  go_enter Try.func29, Try.ntmps29
  go_wp2
  go_ret2
  exact ⟨rfl, rfl⟩

set_option maxHeartbeats 1000000 in
theorem cut_no (s : ByteArray) (hs : s.size ≤ 1100000) (h : ∀ hp : 0 < s.size, ((s[0].toNat : Int) == 45) = false) (w : World) :
    Calls Try.prog 29 #[.string s, .string ⟨#[45]⟩] w fun e w' => e = .returned (.tuple #[.string s, .bool false]) ∧ w = w' := by
  by_cases hp : 0 < s.size
  · have hx := dash_no hp (h hp)
    have hp1 : 1 ≤ s.size := hp
    clear h
    go_enter Try.func29, Try.ntmps29
    go_wp2
    go_ret2
    exact ⟨rfl, rfl⟩
  · have hx : decide ((1 : Int) ≤ (s.size : Int)) = false := decide_eq_false (by omega)
    clear h
    go_enter Try.func29, Try.ntmps29
    go_wp2
    go_ret2
    exact ⟨rfl, rfl⟩

/-- No size is there: the text is empty, or opens with neither a dash nor a digit. -/
def NoSize (s : ByteArray) : Prop := ∀ hp : 0 < s.size, ((s[0].toNat : Int) == 45) = false ∧ dg (s[0].toNat : Int) = false

set_option maxHeartbeats 1000000 in
theorem size_dash (b : Nat) (s : ByteArray) (hs : s.size ≤ 1100000) (hp : 0 < s.size) (h : ((s[0].toNat : Int) == 45) = true) (w : World) (h1 : w.cell? ⟨b, 0, none⟩ = some (.string s)) (h3 : w.frozen? ⟨b, 0, none⟩ = false) :
    Calls Try.prog 25 #[.pointer (some ⟨b, 0, none⟩)] w fun e w' => e = .returned (.tuple #[]) ∧ w' = w.setCell ⟨b, 0, none⟩ (.string (s.extract 1 s.size)) := by
  go_enter Try.func25, Try.ntmps25
  go_wp2_with (go_at_call 29; refine (cut_yes _ hs hp h _).mono ?_; rintro e w' ⟨rfl, rfl⟩)
  refine bodyPost_ret (results_none rfl _ _ _) rfl ?_
  exact ⟨rfl, rfl⟩

theorem dig_none {s : ByteArray} {n : Nat} (h : DigAt s n) (hb : NoSize s) : n = 0 := by
  by_cases e : n = 0
  · exact e
  · have h0 : 0 < s.size := by have := h.1; omega
    have h1 := h.2.1 0 h0 (by omega)
    rw [(hb h0).2] at h1
    exact absurd h1 (by decide)
theorem dig_some {s : ByteArray} {n : Nat} (h : DigAt s n) (hp : 0 < s.size) (hb : dg (s[0].toNat : Int) = true) : 0 < n := by
  by_cases e : n = 0
  · subst e
    have h1 := h.2.2 hp
    rw [hb] at h1
    exact absurd h1 (by decide)
  · omega

set_option maxHeartbeats 1000000 in
theorem size_none (b : Nat) (s : ByteArray) (f : Bool) (hs : s.size ≤ 1100000) (hb : NoSize s) (w : World) (h1 : w.cell? ⟨b, 0, none⟩ = some (.string s)) (h2 : w.cell? ⟨b, 1, none⟩ = some (.bool f)) (h3 : w.frozen? ⟨b, 0, none⟩ = false) (h4 : w.frozen? ⟨b, 1, none⟩ = false) :
    Calls Try.prog 25 #[.pointer (some ⟨b, 0, none⟩)] w fun e w' => e = .returned (.tuple #[]) ∧ w' = ((w.setCell ⟨b, 0, none⟩ (.string s)).setCell ⟨b, 0, none⟩ (.string ⟨#[]⟩)).setCell ⟨b, 1, none⟩ (.bool true) := by
  have hC := cut_no s hs (fun hp => (hb hp).1) w
  have he : (s.extract 0 0).toList.isEmpty = true := empty_yes (by simp)
  go_enter Try.func25, Try.ntmps25
  go_wp2_with (go_at_call 29; refine hC.mono ?_; rintro e w' ⟨rfl, rfl⟩)
  refine (digits_any b s hs _ h1 h3).mono ?_
  rintro e w2 ⟨n, hn, rfl, rfl⟩
  obtain rfl := dig_none hn hb
  clear hn hC hb
  go_wp2_with fail
  refine (fail_any b s f _ (by go_simp) (by go_simp) (by go_simp) (by go_simp)).mono ?_
  rintro e w2 ⟨rfl, rfl⟩
  go_wp2
  go_end0
  exact ⟨rfl, rfl⟩

set_option maxHeartbeats 1000000 in
theorem size_some (b : Nat) (s : ByteArray) (hs : s.size ≤ 1100000) (hp : 0 < s.size) (h : dg (s[0].toNat : Int) = true) (w : World) (h1 : w.cell? ⟨b, 0, none⟩ = some (.string s)) (h3 : w.frozen? ⟨b, 0, none⟩ = false) :
    Calls Try.prog 25 #[.pointer (some ⟨b, 0, none⟩)] w fun e w' => ∃ n, DigAt s n ∧ 0 < n ∧ e = .returned (.tuple #[]) ∧ w' = w.setCell ⟨b, 0, none⟩ (.string (s.extract n s.size)) := by
  have hC := cut_no s hs (fun hp => beq_eq_false_iff_ne.2 (by have := dg_yes h; omega)) w
  go_enter Try.func25, Try.ntmps25
  go_wp2_with (go_at_call 29; refine hC.mono ?_; rintro e w' ⟨rfl, rfl⟩)
  refine (digits_any b s hs _ h1 h3).mono ?_
  rintro e w2 ⟨n, hn, rfl, rfl⟩
  have hn0 := dig_some hn hp h
  have he : (s.extract 0 n).toList.isEmpty = false := empty_no (by rw [ex_size s n hn.1]; exact hn0)
  have hD : Hid (DigAt s n) := hn
  clear hn hC h
  go_wp2
  go_end0
  exact ⟨n, hD.out, hn0, rfl, rfl⟩

set_option maxHeartbeats 1000000 in
theorem zzs_dash (s : ByteArray) (f : Bool) (hs : s.size ≤ 1100000) (hp : 0 < s.size) (h : ((s[0].toNat : Int) == 45) = true) (w : World) :
    Calls Try.prog 19 #[.string s, .bool f] w fun e w' => e = .returned (.tuple #[.string (s.extract 1 s.size), .bool f]) ∧ Below w.heap.size w w' := by
  go_enter Try.func19, Try.ntmps19
  go_wp2_with fail
  refine (size_dash w.heap.size s hs hp h _ (by simp) (by simp)).mono ?_
  rintro e w' ⟨rfl, rfl⟩
  clear h
  go_wp2
  go_region
  all_goals go_wp2
  all_goals go_ret2
  all_goals exact ⟨rfl, (((Below.refl _ _).alloc (Nat.le_refl _) _)).drew⟩

set_option maxHeartbeats 1000000 in
theorem zzs_none (s : ByteArray) (f : Bool) (hs : s.size ≤ 1100000) (hb : NoSize s) (w : World) :
    Calls Try.prog 19 #[.string s, .bool f] w fun e w' => e = .returned (.tuple #[.string ⟨#[]⟩, .bool true]) ∧ Below w.heap.size w w' := by
  go_enter Try.func19, Try.ntmps19
  go_wp2_with fail
  refine (size_none w.heap.size s f hs hb _ (by simp) (by simp) (by simp) (by simp)).mono ?_
  rintro e w' ⟨rfl, rfl⟩
  clear hb
  go_wp2
  go_region
  all_goals go_wp2
  all_goals go_ret2
  all_goals exact ⟨rfl, (((Below.refl _ _).alloc (Nat.le_refl _) _)).drew⟩

set_option maxHeartbeats 1000000 in
theorem zzs_some (s : ByteArray) (f : Bool) (hs : s.size ≤ 1100000) (hp : 0 < s.size) (h : dg (s[0].toNat : Int) = true) (w : World) :
    Calls Try.prog 19 #[.string s, .bool f] w fun e w' => ∃ n, DigAt s n ∧ 0 < n ∧ e = .returned (.tuple #[.string (s.extract n s.size), .bool f]) ∧ Below w.heap.size w w' := by
  go_enter Try.func19, Try.ntmps19
  go_wp2_with fail
  refine (size_some w.heap.size s hs hp h _ (by simp) (by simp)).mono ?_
  rintro e w' ⟨n, hn, hn0, rfl, rfl⟩
  have hD : Hid (DigAt s n) := hn
  clear h hn
  go_wp2
  go_region
  all_goals go_wp2
  all_goals go_ret2
  all_goals exact ⟨n, hD.out, hn0, rfl, (((Below.refl _ _).alloc (Nat.le_refl _) _)).drew⟩
end Go.Proofs.Qxb6601560a.Walk
