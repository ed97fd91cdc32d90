/-
  THE WALK OF zzSuffixEdit: a full table of the call's own.
-/
import Derived.Test.Qxb6602101aDist
namespace Go.Proofs.Qxb6602101a.Walk
open Go.RowKit Lev
set_option linter.unusedVariables false

/-- Go's 'zzMin3', as the Go text reckons it. -/
def min3 (x y z : Int) : Int := if z < (if y < x then y else x) then z else (if y < x then y else x)

set_option maxHeartbeats 400000 in
theorem min3_any (x y z : Int) (w : World) : Calls Try.prog 13 #[.int .i64 x, .int .i64 y, .int .i64 z] w fun e w' => e = .returned (.int .i64 (min3 x y z)) ∧ w' = w := by
  by_cases h1 : y < x
  · by_cases h2 : z < y
    · have e : min3 x y z = z := by unfold min3; rw [if_pos h1, if_pos h2]
      rw [e]
      clear e
      go_enter Try.func13, Try.ntmps13
      go_wp2
      go_ret
      exact ⟨rfl, rfl⟩
    · have e : min3 x y z = y := by unfold min3; rw [if_pos h1, if_neg h2]
      rw [e]
      clear e
      go_enter Try.func13, Try.ntmps13
      go_wp2
      go_ret
      exact ⟨rfl, rfl⟩
  · by_cases h2 : z < x
    · have e : min3 x y z = z := by unfold min3; rw [if_neg h1, if_pos h2]
      rw [e]
      clear e
      go_enter Try.func13, Try.ntmps13
      go_wp2
      go_ret
      exact ⟨rfl, rfl⟩
    · have e : min3 x y z = x := by unfold min3; rw [if_neg h1, if_neg h2]
      rw [e]
      clear e
      go_enter Try.func13, Try.ntmps13
      go_wp2
      go_ret
      exact ⟨rfl, rfl⟩

/-- The lines from k on are done. -/
def Done (a b : ByteArray) (f : Nat → Nat) (k : Nat) : Prop := ∀ r c, k ≤ r → r ≤ a.size → c ≤ b.size → f (r * (b.size + 1) + c) = S a b r c
/-- In line i the places from l on are done. -/
def Part (a b : ByteArray) (f : Nat → Nat) (i l : Nat) : Prop := ∀ c, l ≤ c → c ≤ b.size → f (i * (b.size + 1) + c) = S a b i c

/-- Between two lines: those from v + 1 on are done. -/
def Outer (a b : ByteArray) (w : World) (iv : Value) (wr : World) : Prop :=
  ∃ (v : Int) (f : Nat → Nat), iv = .int .i64 v ∧ -1 ≤ v ∧ v ≤ a.size ∧ Row wr w.heap.size ((a.size + 1) * (b.size + 1)) f ∧ Done a b f (v + 1).toNat ∧ Below w.heap.size w wr
/-- In line i: the places from u + 1 on are done. -/
def Inner (a b : ByteArray) (w : World) (i : Nat) (jv : Value) (wr : World) : Prop :=
  ∃ (u : Int) (f : Nat → Nat), jv = .int .i64 u ∧ -1 ≤ u ∧ u ≤ b.size ∧ Row wr w.heap.size ((a.size + 1) * (b.size + 1)) f ∧ Done a b f (i + 1) ∧ Part a b f i (u + 1).toNat ∧ Below w.heap.size w wr
/-- How many rounds are to come at most. -/
def left (v : Value) : Nat := (intOf v + 1).toNat
theorem left_down (j : Nat) : left (.int .i64 ((j : Int) - 1)) < left (.int .i64 (j : Int)) := by
  simp only [left, intOf]
  omega

theorem idx_nat (n m i : Nat) (h : i ≤ n) : i * (m + 1) + m + 1 ≤ (n + 1) * (m + 1) := by
  have h1 : (i + 1) * (m + 1) ≤ (n + 1) * (m + 1) := Nat.mul_le_mul_right _ (by omega)
  rw [Nat.succ_mul] at h1
  omega
theorem idx_int (n m i : Nat) (h : i ≤ n) : 0 ≤ (i : Int) * ((m : Int) + 1) ∧ (i : Int) * ((m : Int) + 1) + (m : Int) + 1 ≤ ((n : Int) + 1) * ((m : Int) + 1) := by
  have h1 := idx_nat n m i h
  have e1 : ((i * (m + 1) : Nat) : Int) = (i : Int) * ((m : Int) + 1) := by push_cast; rfl
  have e2 : (((n + 1) * (m + 1) : Nat) : Int) = ((n : Int) + 1) * ((m : Int) + 1) := by push_cast; rfl
  rw [← e1, ← e2]
  omega

theorem idx_next (n m i : Nat) (h : i < n) : 0 ≤ ((i : Int) + 1) * ((m : Int) + 1) ∧ ((i : Int) + 1) * ((m : Int) + 1) + (m : Int) + 1 ≤ ((n : Int) + 1) * ((m : Int) + 1) := by
  have h1 := idx_int n m (i + 1) (by omega)
  have e : ((i + 1 : Nat) : Int) = (i : Int) + 1 := by omega
  rw [e] at h1
  exact h1

/-- What a round of the inner loop does to the table. -/
theorem inner_step {wr w : World} {a b : ByteArray} {f : Nat → Nat} {i j : Nat} (hi : (i : Int) ≤ a.size) (hj : (j : Int) ≤ b.size) (hR : Row wr w.heap.size ((a.size + 1) * (b.size + 1)) f) (hD : Done a b f (i + 1)) (hP : Part a b f i ((j : Int) + 1).toNat)
    (hbe : Below w.heap.size w wr) {V : Int} (hV : V = (S a b i j : Int)) : Inner a b w i (.int .i64 ((j : Int) - 1)) (wr.setCell ⟨w.heap.size, i * (b.size + 1) + j, none⟩ (.int .i64 V)) := by
  subst hV
  refine ⟨(j : Int) - 1, fun x => if x = i * (b.size + 1) + j then S a b i j else f x, rfl, by omega, by omega, row_set hR _ _ _ (fun x _ => rfl), ?_, ?_, hbe.setCell (Nat.le_refl _) _⟩
  · intro r c h1 h2 h3
    have h4 : (i + 1) * (b.size + 1) ≤ r * (b.size + 1) := Nat.mul_le_mul_right _ h1
    rw [Nat.succ_mul] at h4
    show (if r * (b.size + 1) + c = i * (b.size + 1) + j then S a b i j else f (r * (b.size + 1) + c)) = _
    rw [if_neg (by omega)]
    exact hD r c h1 h2 h3
  · intro c h1 h2
    show (if i * (b.size + 1) + c = i * (b.size + 1) + j then S a b i j else f (i * (b.size + 1) + c)) = _
    by_cases e : c = j
    · subst e
      rw [if_pos rfl]
    · rw [if_neg (by omega)]
      exact hP c (by omega) h2
theorem inner_drewN {a b : ByteArray} {wr w : World} {i m : Nat} {jv : Value} {x : Addr} {V : Value} (h : Inner a b w i jv (wr.setCell x V)) : Inner a b w i jv ((wr.drewN m).setCell x V) := by
  obtain ⟨u, f, h1, h2, h3, h4, h5, h6, h7⟩ := h
  refine ⟨u, f, h1, h2, h3, World.rowIs.of_block h4 rfl, h5, h6, h7.trans ⟨rfl, rfl, rfl, Nat.le_refl _, fun _ _ => rfl⟩⟩
theorem min3_le (x y z : Nat) (hx : x ≤ 1024) (hy : y ≤ 1024) (hz : z ≤ 1024) : 0 ≤ min3 (x : Int) (y : Int) (z : Int) ∧ min3 (x : Int) (y : Int) (z : Int) ≤ 1024 := by
  unfold min3
  by_cases h : (y : Int) < x
  · simp only [if_pos h]; split <;> omega
  · simp only [if_neg h]; split <;> omega
theorem min3_eq (x y z : Nat) : min3 (x : Int) (y : Int) (z : Int) = ((min (min x y) z : Nat) : Int) := by
  unfold min3
  by_cases h : (y : Int) < x
  · simp only [if_pos h]; split <;> omega
  · simp only [if_neg h]; split <;> omega
theorem byte_eq {c d : UInt8} (h : ((c.toNat : Int) == (d.toNat : Int)) = true) : c = d := by
  have e : (c.toNat : Int) = (d.toNat : Int) := by simpa using h
  exact UInt8.toNat_inj.1 (by omega)
theorem byte_ne {c d : UInt8} (h : ((c.toNat : Int) == (d.toNat : Int)) = false) : c ≠ d := by
  intro e
  rw [e] at h
  simp at h

set_option maxRecDepth 10000 in
set_option maxHeartbeats 4000000 in
theorem suffix_any (a b : ByteArray) (ha : a.size ≤ 1024) (hb : b.size ≤ 1024) (w : World) :
    Calls Try.prog 8 #[.string a, .string b] w fun e w' => e = .returned (.int .i64 (lev a.data.toList b.data.toList : Int)) ∧ Below w.heap.size w w' := by
  have hsz : (a.size + 1) * (b.size + 1) ≤ 1025 * 1025 := Nat.mul_le_mul (by omega) (by omega)
  have hmk := run_make_row' (P := Try.prog) 25 3 (.int .i64 0) 8 Try.underlying25 info3 rfl .i64 .i64 ((a.size + 1) * (b.size + 1)) (by omega) (by omega)
  have ec : (((a.size + 1) * (b.size + 1) : Nat) : Int) = ((a.size : Int) + 1) * ((b.size : Int) + 1) := by push_cast; rfl
  rw [ec] at hmk
  have hsi : ((a.size : Int) + 1) * ((b.size : Int) + 1) ≤ 1050625 := by rw [← ec]; omega
  have hsi0 : 0 ≤ ((a.size : Int) + 1) * ((b.size : Int) + 1) := by rw [← ec]; omega
  have hrow0 : Row (w.alloc (.cells (madeCells #[.int .i64 0] ((a.size + 1) * (b.size + 1))) 3)) w.heap.size ((a.size + 1) * (b.size + 1)) (fun _ => 0) := World.rowIs_made w (.int .i64 0) ((a.size + 1) * (b.size + 1)) 3
  have hbe0 : Below w.heap.size w (w.alloc (.cells (madeCells #[.int .i64 0] ((a.size + 1) * (b.size + 1))) 3)) := (Below.refl _ _).alloc (Nat.le_refl _) _
  clear ec
  go_enter Try.func8, Try.ntmps8
  go_wp2_with fail
  clear hmk
  go_loopw [9] (fun iv wr => Outer a b w iv wr) (fun iv _ => left iv)
  case atStart => exact ⟨(a.size : Int), fun _ => 0, rfl, by omega, by omega, hrow0, fun r c h1 h2 _ => absurd h1 (by omega), hbe0⟩
  case round =>
    clear hrow0 hbe0
    obtain ⟨v, f, rfl, hv1, hv2, hR, hD, hbe⟩ := hrel
    by_cases hv : 0 ≤ v
    · obtain ⟨i, rfl⟩ := Int.eq_ofNat_of_zero_le hv
      clear hv hv1
      go_wp2_with fail
      go_loopw [10] (fun jv wr => Inner a b w i jv wr) (fun jv _ => left jv)
      case atStart => exact ⟨(b.size : Int), f, rfl, by omega, by omega, hR, hD, fun c h1 h2 => absurd h1 (by omega), hbe⟩
      case round =>
        clear hR hD hbe
        obtain ⟨u, f, rfl, hu1, hu2, hR, hD, hP, hbe⟩ := hrel
        by_cases hu : 0 ≤ u
        · obtain ⟨j, rfl⟩ := Int.eq_ofNat_of_zero_le hu
          clear hu hu1
          obtain ⟨ix0, ix1⟩ := idx_int a.size b.size i (by omega)
          have ixn := idx_nat a.size b.size i (by omega)
          have hcc := row_cell hR (show i * (b.size + 1) + j < (a.size + 1) * (b.size + 1) by omega)
          have hzz := row_free hR (i * (b.size + 1) + j)
          rcases Nat.lt_or_ge i a.size with hin | hin
          · have hie : ((i : Int) == (a.size : Int)) = false := beq_eq_false_iff_ne.2 (by omega)
            rcases Nat.lt_or_ge j b.size with hjn | hjn
            · have hje : ((j : Int) == (b.size : Int)) = false := beq_eq_false_iff_ne.2 (by omega)
              obtain ⟨iy0, iy1⟩ := idx_next a.size b.size i hin
              have iyn := idx_nat a.size b.size (i + 1) (by omega)
              obtain ⟨x11, e11⟩ : ∃ x : Nat, x = S a b (i + 1) (j + 1) := ⟨_, rfl⟩
              have c11 := row_cell hR (show (i + 1) * (b.size + 1) + j + 1 < (a.size + 1) * (b.size + 1) by omega)
              rw [show f ((i + 1) * (b.size + 1) + j + 1) = S a b (i + 1) (j + 1) from hD (i + 1) (j + 1) (Nat.le_refl _) (by omega) (by omega), ← e11] at c11
              have b11 := S_le a b (i + 1) (j + 1)
              rw [← e11] at b11
              have l11 : x11 ≤ 1024 := by omega
              have E11 : Hid (x11 = S a b (i + 1) (j + 1)) := e11
              clear e11 b11
              cases hab : ((a[i].toNat : Int) == (b[j].toNat : Int))
              · obtain ⟨x10, e10⟩ : ∃ x : Nat, x = S a b (i + 1) j := ⟨_, rfl⟩
                have c10 := row_cell hR (show (i + 1) * (b.size + 1) + j < (a.size + 1) * (b.size + 1) by omega)
                rw [hD (i + 1) j (Nat.le_refl _) (by omega) (by omega), ← e10] at c10
                obtain ⟨x01, e01⟩ : ∃ x : Nat, x = S a b i (j + 1) := ⟨_, rfl⟩
                have c01 := row_cell hR (show i * (b.size + 1) + j + 1 < (a.size + 1) * (b.size + 1) by omega)
                rw [show f (i * (b.size + 1) + j + 1) = S a b i (j + 1) from hP (j + 1) (by omega) (by omega), ← e01] at c01
                have b10 := S_le a b (i + 1) j
                rw [← e10] at b10
                have b01 := S_le a b i (j + 1)
                rw [← e01] at b01
                obtain ⟨m0, m1⟩ := min3_le x10 x01 x11 (by omega) (by omega) l11
                have hV : Hid ((1 : Int) + min3 (x10 : Int) (x01 : Int) (x11 : Int) = (S a b i j : Int)) := by
                  show _ = _
                  rw [min3_eq, S_diff a b i j hin hjn (byte_ne hab), ← e10, ← e01, ← E11.out]
                  omega
                clear e10 e01 b10 b01 E11
                go_wp2
                go_quiet (fail)
                go_wp2
                have c11' : (wr.drewN nq).cell? ⟨w.heap.size, (i + 1) * (b.size + 1) + j + 1, none⟩ = some (.int .i64 (x11 : Int)) := c11
                have c10' : (wr.drewN nq).cell? ⟨w.heap.size, (i + 1) * (b.size + 1) + j, none⟩ = some (.int .i64 (x10 : Int)) := c10
                have c01' : (wr.drewN nq).cell? ⟨w.heap.size, i * (b.size + 1) + j + 1, none⟩ = some (.int .i64 (x01 : Int)) := c01
                have hR' := row_drewN hR nq
                have hbe' := below_drewN hbe nq
                clear c11 c10 c01 hR hbe hcc hzz
                generalize wr.drewN nq = w5 at *
                have hcc := row_cell hR' (show i * (b.size + 1) + j < (a.size + 1) * (b.size + 1) by omega)
                have hzz := row_free hR' (i * (b.size + 1) + j)
                go_big_quiet ((go_at_call 13; exact Calls.quiet_of_same (min3_any _ _ _ _)))
                go_wp2
                go_roundw
                case rel => exact inner_drewN (inner_step hv2 hu2 hR' hD hP hbe' hV.out)
                case measure => exact left_down j
              · have hV : Hid ((x11 : Int) = (S a b i j : Int)) := by
                  show _ = _
                  rw [S_same a b i j hin hjn (byte_eq hab), ← E11.out]
                clear E11
                go_wp2
                go_quiet (fail)
                go_wp2
                go_roundw
                case rel => exact inner_drewN (inner_step hv2 hu2 hR hD hP hbe hV.out)
                case measure => exact left_down j
            · have hje : ((j : Int) == (b.size : Int)) = true := beq_iff_eq.2 (by omega)
              have hV : Hid ((a.size : Int) - (i : Int) = (S a b i j : Int)) := by
                show _ = _
                rw [show j = b.size by omega, S_right]
                omega
              go_wp2
              go_roundw
              case rel => exact inner_step hv2 hu2 hR hD hP hbe hV.out
              case measure => exact left_down j
          · have hie : ((i : Int) == (a.size : Int)) = true := beq_iff_eq.2 (by omega)
            have hV : Hid ((b.size : Int) - (j : Int) = (S a b i j : Int)) := by
              show _ = _
              rw [show i = a.size by omega, S_left]
              omega
            go_wp2
            go_roundw
            case rel => exact inner_step hv2 hu2 hR hD hP hbe hV.out
            case measure => exact left_down j
        · obtain rfl : u = -1 := by omega
          have hD' : Done a b f i := by
            intro r c h1 h2 h3
            by_cases e : r = i
            · subst e
              exact hP c (Nat.zero_le _) h3
            · exact hD r c (by omega) h2 h3
          clear hu hu1 hu2 hD hP
          go_wp2
          go_roundw
          case rel => exact ⟨(i : Int) - 1, f, rfl, by omega, by omega, hR, by rw [show ((i : Int) - 1 + 1).toNat = i by omega]; exact hD', hbe⟩
          case measure => exact left_down i
    · obtain rfl : v = -1 := by omega
      have hc := row_cell hR (show 0 < (a.size + 1) * (b.size + 1) by have := idx_nat a.size b.size 0 (by omega); omega)
      have e0 : f 0 = S a b 0 0 := by
        have := hD 0 0 (Nat.zero_le _) (by omega) (by omega)
        simpa using this
      rw [e0, S_full] at hc
      have hp := (idx_int a.size b.size 0 (by omega)).2
      have hp2 := idx_nat a.size b.size 0 (by omega)
      clear hR hD hv hv1 hv2 e0
      go_wp2
      go_ret
      exact ⟨rfl, hbe⟩
end Go.Proofs.Qxb6602101a.Walk
