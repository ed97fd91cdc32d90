/-
  THE WALK OF FnTokenScriptReadsEveryField.
-/
import Derived.Test.Qxb6601560aLaw3
namespace Go.Proofs.Qxb6601560a.Walk
open Go.RowKit
set_option linter.unusedVariables false

/-- Is byte i white space? -/
def fsp (s : ByteArray) (i : Nat) : Bool := if h : i < s.size then sp (s[i].toNat : Int) else true
theorem fsp_at (s : ByteArray) (i : Nat) (h : i < s.size) : fsp s i = sp (s[i].toNat : Int) := by
  unfold fsp; exact dif_pos h
/-- c fields begin ahead of place k. -/
def Cnt (s : ByteArray) (k c : Nat) : Prop := c = Pl.starts (fsp s) k
theorem cnt_le {s : ByteArray} {k c : Nat} (h : Cnt s k c) : c ≤ k := by
  rw [h]; exact Pl.starts_le _ _
theorem cnt_zero (s : ByteArray) : Cnt s 0 0 := rfl
theorem cnt_space {s : ByteArray} {k c : Nat} (h : Cnt s k c) (hk : k < s.size) (hs : sp (s[k].toNat : Int) = true) : Cnt s (k + 1) c := by
  unfold Cnt at *
  rw [Pl.starts_space _ _ (by rw [fsp_at s k hk]; exact hs)]
  exact h
theorem cnt_first {s : ByteArray} {c : Nat} (h : Cnt s 0 c) (hk : 0 < s.size) (hs : sp (s[0].toNat : Int) = false) : Cnt s (0 + 1) (c + 1) := by
  unfold Cnt at *
  rw [Pl.starts_succ, if_pos ⟨by rw [fsp_at s 0 hk]; exact hs, .inl rfl⟩, h]
theorem cnt_new {s : ByteArray} {k c : Nat} (h : Cnt s k c) (hk : k < s.size) (hk1 : k - 1 < s.size) (hs : sp (s[k].toNat : Int) = false) (hp : sp (s[k - 1].toNat : Int) = true) : Cnt s (k + 1) (c + 1) := by
  unfold Cnt at *
  rw [Pl.starts_succ, if_pos ⟨by rw [fsp_at s k hk]; exact hs, .inr (by rw [fsp_at s (k - 1) hk1]; exact hp)⟩, h]
theorem cnt_in {s : ByteArray} {k c : Nat} (h : Cnt s k c) (hk : k < s.size) (h0 : 0 < k) (hk1 : k - 1 < s.size) (hp : sp (s[k - 1].toNat : Int) = false) : Cnt s (k + 1) c := by
  unfold Cnt at *
  rw [Pl.starts_succ, if_neg, h]
  · rfl
  · rintro ⟨_, h1 | h1⟩
    · omega
    · rw [fsp_at s (k - 1) hk1, hp] at h1
      exact absurd h1 (by decide)

/-- Place k is no inner place of a field. -/
def Edge (s : ByteArray) (k : Nat) : Prop := k = 0 ∨ fsp s k = true ∨ fsp s (k - 1) = true

/-- What a call of ZZToken at place k gives. -/
structure Field (s : ByteArray) (k c : Nat) (r a : ByteArray) : Prop where
  cnt : Cnt s (k + r.size) (c + 1)
  edge : Edge s (k + r.size)
  fits : k + r.size ≤ s.size
  pos : 0 < r.size
  left : s.extract k (k + r.size) = r
  right : s.extract (k + r.size) s.size = a

theorem ex_from (s : ByteArray) (k j : Nat) (h : j < (s.extract k s.size).size) (h' : k + j < s.size) : (s.extract k s.size)[j] = s[k + j] := by
  simp [ByteArray.getElem_extract]
theorem field_of {s : ByteArray} {k c : Nat} {r a : ByteArray} (hc : Cnt s k c) (he : Edge s k) (hk : k < s.size) (hs : sp (s[k].toNat : Int) = false) (hS : Split (s.extract k s.size) r a) : Field s k c r a := by
  obtain ⟨hl, hr, hsum, hpos, hfree, hends, hsame, hbehind⟩ := hS
  have hts : (s.extract k s.size).size = s.size - k := by simp
  have hrs : r.size ≤ s.size - k := by omega
  have hnf : ∀ j, j < r.size → fsp s (k + j) = false := by
    intro j hj
    have h1 := hfree j hj hj
    rw [hsame j hj (by omega), ex_from s k j (by omega) (by omega)] at h1
    rw [fsp_at s (k + j) (by omega)]
    exact h1
  have hp : k = 0 ∨ fsp s (k - 1) = true := by
    rcases he with h | h | h
    · exact .inl h
    · rw [fsp_at s k hk, hs] at h
      exact absurd h (by decide)
    · exact .inr h
  refine ⟨?_, ?_, by omega, hpos, ?_, ?_⟩
  · unfold Cnt at *
    obtain ⟨m, hm⟩ : ∃ m, r.size = m + 1 := ⟨r.size - 1, by omega⟩
    rw [hm, Pl.starts_field (fsp s) k hp m (fun j hj => hnf j (by omega)), hc]
  · refine .inr (.inl ?_)
    by_cases h : r.size < (s.extract k s.size).size
    · have h1 := hbehind h
      rw [ex_from s k r.size h (by omega)] at h1
      rw [fsp_at s (k + r.size) (by omega)]
      exact h1
    · unfold fsp
      exact dif_neg (by omega)
  · have e : (s.extract k s.size).extract 0 r.size = s.extract k (k + r.size) := by
      rw [ByteArray.extract_extract, Nat.add_zero, Nat.min_eq_left (by omega)]
    rw [← e]
    exact hl
  · have e : (s.extract k s.size).extract r.size (s.extract k s.size).size = s.extract (k + r.size) s.size := by
      rw [ByteArray.extract_extract, hts, Nat.min_eq_right (by omega)]
    rw [← e]
    exact hr

theorem zzIsSpace_at (n : Int) (w : World) : Calls Try.prog 11 #[.int .u8 n] w fun e w' => e = .returned (.bool (sp n)) ∧ w = w' :=
  (zzIsSpace_any n w).mono fun _ _ ⟨a, b⟩ => ⟨a, b.symm⟩

set_option maxHeartbeats 1000000 in
theorem law4_main (a0 : ByteArray) (hlen : a0.size ≤ 1048576) (w : World) :
    Calls Try.prog 4 #[.string a0] w fun e w' => e = .returned (.bool true) ∧ Below w.heap.size w w' := by
  have hd : decide ((1048576 : Int) < (a0.size : Int)) = false := by simp; omega
  go_enter Try.func4, Try.ntmps4
  go_wp2_with (go_at_call 12; go_in)
  go_loop [3, 4] (fun g i => ∃ k c : Nat, k ≤ a0.size ∧ c ≤ k ∧ i = .int .i64 k ∧ g = .int .i64 c ∧ Cnt a0 k c) (fun _ i => a0.size - (intOf i).toNat)
  case atStart => exact ⟨0, 0, Nat.zero_le _, Nat.le_refl _, rfl, rfl, cnt_zero a0⟩
  case round =>
    obtain ⟨k, c, hk, hck, rfl, rfl, hat⟩ := hrel
    by_cases hlt : k < a0.size
    · cases hsp : sp (a0[k].toNat : Int)
      · by_cases h0 : k = 0
        · subst h0
          have hn := cnt_first hat hlt hsp
          clear hat
          go_wp2_with (first | (go_at_call 11; refine (zzIsSpace_at _ _).mono ?_; rintro e w' ⟨rfl, rfl⟩))
          go_round
          case rel => refine ⟨trivial, ?_⟩; (repeat apply Exists.intro); refine ⟨?_, rfl⟩; exact ⟨0 + 1, c + 1, by omega, by omega, by go_num, by go_num, hn⟩
          case measure => simp [intOf]; omega
        · have h0' : ((k : Int) == 0) = false := beq_eq_false_iff_ne.2 (by omega)
          have hk1 : k - 1 < a0.size := by omega
          have hkp : 1 ≤ k := by omega
          cases hs1 : sp (a0[k - 1].toNat : Int)
          · have hn := cnt_in hat hlt (by omega) hk1 hs1
            clear hat h0
            go_wp2_with (first | (go_at_call 11; refine (zzIsSpace_at _ _).mono ?_; rintro e w' ⟨rfl, rfl⟩))
            go_round
            case rel => refine ⟨trivial, ?_⟩; (repeat apply Exists.intro); refine ⟨?_, rfl⟩; exact ⟨k + 1, c, by omega, by omega, by go_num, by go_num, hn⟩
            case measure => simp [intOf]; omega
          · have hn := cnt_new hat hlt hk1 hsp hs1
            clear hat h0
            go_wp2_with (first | (go_at_call 11; refine (zzIsSpace_at _ _).mono ?_; rintro e w' ⟨rfl, rfl⟩))
            go_round
            case rel => refine ⟨trivial, ?_⟩; (repeat apply Exists.intro); refine ⟨?_, rfl⟩; exact ⟨k + 1, c + 1, by omega, by omega, by go_num, by go_num, hn⟩
            case measure => simp [intOf]; omega
      · have hn := cnt_space hat hlt hsp
        clear hat
        go_wp2_with (first | (go_at_call 11; refine (zzIsSpace_at _ _).mono ?_; rintro e w' ⟨rfl, rfl⟩))
        go_round
        case rel => refine ⟨trivial, ?_⟩; (repeat apply Exists.intro); refine ⟨?_, rfl⟩; exact ⟨k + 1, c, by omega, by omega, by go_num, by go_num, hn⟩
        case measure => simp [intOf]; omega
    · obtain rfl : k = a0.size := by omega
      clear hk
      go_wp2_with (first | (go_at_call 11; refine (zzIsSpace_at _ _).mono ?_; rintro e w' ⟨rfl, rfl⟩))
      go_loopw [5, 6] (fun g i wr => ∃ k d : Nat, k ≤ a0.size ∧ d ≤ k ∧ i = .int .i64 k ∧ g = .int .i64 d ∧ Cnt a0 k d ∧ Edge a0 k ∧ Below w.heap.size w wr) (fun _ i _ => a0.size - (intOf i).toNat)
      case atStart => exact ⟨0, 0, Nat.zero_le _, Nat.le_refl _, rfl, rfl, cnt_zero a0, .inl rfl, Below.refl _ _⟩
      case round =>
        obtain ⟨k, d, hk, hdk, rfl, rfl, hcn, hed, hb⟩ := hrel
        by_cases hlt2 : k < a0.size
        · cases hsp : sp (a0[k].toNat : Int)
          · have hZ := fun wx => zzt_yes (a0.extract k a0.size) false (by simp; omega) (by simp; omega) (by rw [ex_from a0 k 0 (by simp; omega) hlt2]; exact hsp) wx
            go_wp2_with (first | (go_at_call 11; refine (zzIsSpace_at _ _).mono ?_; rintro e w' ⟨rfl, rfl⟩))
            refine (hZ _).mono ?_
            rintro e w2 ⟨r, a, hS, rfl, hg⟩
            have hF := field_of hcn hed hlt2 hsp hS
            clear hZ hS hcn hed
            have hb2 := hb.trans (hg.mono hb.size)
            obtain ⟨fc, fe, ff, fp, fl, fr⟩ := hF
            have hre := empty_no fp
            clear hg hb
            go_wp2
            go_roundw
            case rel => exact ⟨k + r.size, d + 1, by omega, by omega, by go_num, by go_num, fc, fe, hb2⟩
            case measure => simp [intOf]; omega
          · have hn := cnt_space hcn hlt2 hsp
            have he : Edge a0 (k + 1) := .inr (.inr (by rw [Nat.add_sub_cancel, fsp_at a0 k hlt2]; exact hsp))
            clear hcn hed
            go_wp2_with (first | (go_at_call 11; refine (zzIsSpace_at _ _).mono ?_; rintro e w' ⟨rfl, rfl⟩))
            go_roundw
            case rel => exact ⟨k + 1, d, by omega, by omega, by go_num, by go_num, hn, he, hb⟩
            case measure => simp [intOf]; omega
        · obtain rfl : k = a0.size := by omega
          have hcd : c = d := hat.trans hcn.symm
          subst hcd
          clear hcn hat hk
          go_wp2_with (first | (go_at_call 11; refine (zzIsSpace_at _ _).mono ?_; rintro e w' ⟨rfl, rfl⟩))
          go_ret
          exact ⟨rfl, hb⟩

set_option maxHeartbeats 1000000 in
theorem law4 (a0 : ByteArray) (w0 : a0.size ≤ maxLen) (w : World) :
    Calls Try.prog 4 #[.string a0] w fun e w' => e = .returned (.bool true) ∧ Below w.heap.size w w' := by
  unfold maxLen at w0
  by_cases hlen : a0.size ≤ 1048576
  · exact law4_main a0 hlen w
  · go_enter Try.func4, Try.ntmps4
    go_wp2
    go_ret
    exact ⟨rfl, Below.refl _ _⟩
end Go.Proofs.Qxb6601560a.Walk
