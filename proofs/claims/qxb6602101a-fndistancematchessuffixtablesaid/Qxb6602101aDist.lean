/-
  THE WALK OF ignore.distance: one rolling row of the call's own.
-/
import Derived.Test.Qxb6602101aProg
import Derived.Test.Qxb6602101aTable
import Derived.WalkKit
import Derived.WalkSpells
import Derived.WalkLawsBesides
import Derived.Deep.OwnRows
import Derived.Deep.QuietTactic
import Derived.BigQuiet
namespace Go.Proofs.Qxb6602101a.Walk
open Go.RowKit Lev
set_option linter.unusedVariables false

theorem info3 : (Try.prog.info? 3).map (fun i => (i.zero, i.size, i.bytes)) = some (some (.int .i64 0), 1, 8) := by kernel_rfl

/-- The row: n numbers, at the head of block B. -/
def Row (w : World) (B n : Nat) (f : Nat → Nat) : Prop := w.rowIs B 3 n (fun j => .int .i64 (f j : Int))
theorem row_cell {w : World} {B n : Nat} {f : Nat → Nat} (h : Row w B n f) {i : Nat} (hi : i < n) : w.cell? ⟨B, i, none⟩ = some (.int .i64 (f i : Int)) := World.rowIs.cell h hi
theorem row_free {w : World} {B n : Nat} {f : Nat → Nat} (h : Row w B n f) (i : Nat) : w.frozen? ⟨B, i, none⟩ = false := World.rowIs.frozen h i
theorem row_set {w : World} {B n : Nat} {f : Nat → Nat} (h : Row w B n f) (i v : Nat) (g : Nat → Nat) (hg : ∀ x, x < n → (if x = i then v else f x) = g x) :
    Row (w.setCell ⟨B, i, none⟩ (.int .i64 (v : Int))) B n g := by
  refine (World.rowIs.set h i (.int .i64 (v : Int))).congr fun j hj => ?_
  rw [← hg j hj]
  by_cases e : j = i <;> simp [e]
theorem row_congr {w : World} {B n : Nat} {f g : Nat → Nat} (h : Row w B n f) (e : ∀ x, x < n → f x = g x) : Row w B n g :=
  World.rowIs.congr h fun j hj => by rw [e j hj]

theorem row_drewN {w : World} {B n : Nat} {f : Nat → Nat} (h : Row w B n f) (m : Nat) : Row (w.drewN m) B n f :=
  World.rowIs.of_block h (by rw [(World.drewN_alike w m).1])
/-- What the store leaves: Go's own 'min' of three, as the walk spells it. -/
theorem rel_step {wr w : World} {a b : ByteArray} {i j p q r c m : Nat} {x : Int} (hR : Row wr w.heap.size (b.size + 1) (mid a b i j)) (hbe : Below w.heap.size w wr) (hi : i < a.size) (hj : j < b.size)
    (Hp : Hid (p = D a b i j)) (Hq : Hid (q = D a b i (j + 1))) (Hr : Hid (r = D a b (i + 1) j)) (hc : cost a[i] b[j] = c) (hx : x = (p : Int) + c) :
    Row ((wr.drewN m).setCell ⟨w.heap.size, j + 1, none⟩ (.int .i64 (if x < if r < q then (r : Int) + 1 else (q : Int) + 1 then x else if r < q then (r : Int) + 1 else (q : Int) + 1))) w.heap.size (b.size + 1) (mid a b i (j + 1)) ∧
    Below w.heap.size w ((wr.drewN m).setCell ⟨w.heap.size, j + 1, none⟩ (.int .i64 (if x < if r < q then (r : Int) + 1 else (q : Int) + 1 then x else if r < q then (r : Int) + 1 else (q : Int) + 1))) := by
  have hs := D_step a b i j hi hj
  rw [← Hp.out, ← Hq.out, ← Hr.out, hc] at hs
  have hv : (if x < if r < q then (r : Int) + 1 else (q : Int) + 1 then x else if r < q then (r : Int) + 1 else (q : Int) + 1) = ((D a b (i + 1) (j + 1) : Nat) : Int) := by
    rw [hs, hx]
    by_cases h : r < q
    · simp only [if_pos h]
      split <;> omega
    · simp only [if_neg h]
      split <;> omega
  refine ⟨?_, (below_drewN hbe m).setCell (Nat.le_refl _) _⟩
  rw [hv]
  exact row_set (row_drewN hR m) (j + 1) _ _ (fun y _ => mid_set a b i j y)
theorem cost_no {c d : UInt8} (h : ((c.toNat : Int) == (d.toNat : Int)) = false) : cost c d = 1 := by
  unfold cost
  rw [if_neg]
  intro e
  rw [e] at h
  simp at h
theorem cost_yes {c d : UInt8} (h : ((c.toNat : Int) == (d.toNat : Int)) = true) : cost c d = 0 := by
  unfold cost
  rw [if_pos]
  have e : (c.toNat : Int) = (d.toNat : Int) := by simpa using h
  exact UInt8.toNat_inj.1 (by omega)

set_option maxHeartbeats 2000000 in
theorem distance_any (a b : ByteArray) (ha : a.size ≤ 1024) (hb : b.size ≤ 1024) (w : World) :
    Calls Try.prog 12 #[.string a, .string b] w fun e w' => e = .returned (.int .i64 (lev a.data.toList b.data.toList : Int)) ∧ Below w.heap.size w w' := by
  have hmk := run_make_row' (P := Try.prog) 25 3 (.int .i64 0) 8 Try.underlying25 info3 rfl .i64 .i64 (b.size + 1) (by omega) (by omega)
  have ec : ((b.size + 1 : Nat) : Int) = (b.size : Int) + 1 := by omega
  rw [ec] at hmk
  have hrow0 : Row (w.alloc (.cells (madeCells #[.int .i64 0] (b.size + 1)) 3)) w.heap.size (b.size + 1) (fun _ => 0) := World.rowIs_made w (.int .i64 0) (b.size + 1) 3
  have hbe0 : Below w.heap.size w (w.alloc (.cells (madeCells #[.int .i64 0] (b.size + 1)) 3)) := (Below.refl _ _).alloc (Nat.le_refl _) _
  clear ec
  go_enter Try.func12, Try.ntmps12
  go_wp2_with fail
  clear hmk
  go_loopw [17] (fun i wr => ∃ (k : Nat) (f : Nat → Nat), k ≤ b.size + 1 ∧ i = .int .i64 k ∧ Row wr w.heap.size (b.size + 1) f ∧ Hid (∀ x, x < k → f x = x) ∧ Below w.heap.size w wr) (fun i _ => b.size + 1 - (intOf i).toNat)
  case atStart => exact ⟨0, fun _ => 0, Nat.zero_le _, rfl, hrow0, fun x hx => absurd hx (by omega), hbe0⟩
  case round =>
    clear hrow0 hbe0
    obtain ⟨k, f, hk, rfl, hR, hf, hbe⟩ := hrel
    by_cases hlt : k < b.size + 1
    · have hc := row_cell hR hlt
      have hz := row_free hR k
      have hR' := row_set hR k k (fun x => if x = k then k else f x) (fun x _ => rfl)
      have hf' : Hid (∀ x, x < k + 1 → (fun x => if x = k then k else f x) x = x) := by
        intro x hx
        show (if x = k then k else f x) = x
        by_cases e : x = k
        · rw [if_pos e, e]
        · rw [if_neg e]; exact hf.out x (by omega)
      have hbe' := hbe.setCell (p := ⟨w.heap.size, k, none⟩) (Nat.le_refl _) (.int .i64 (k : Int))
      clear hR hf hbe
      go_wp2
      go_roundw
      case rel => exact ⟨k + 1, _, by omega, by go_num, hR', hf', hbe'⟩
      case measure => simp [intOf]; omega
    · have hR0 : Row wr w.heap.size (b.size + 1) (D a b 0) := row_congr hR (fun x hx => by rw [hf.out x (by omega), D_left a b x (by omega)])
      obtain ⟨w1, hw1⟩ : ∃ w1 : World, w1 = wr := ⟨_, rfl⟩
      rw [← hw1] at hR0 hbe ⊢
      have hd1 : decide ((k : Int) < (b.size : Int) + 1) = false := decide_eq_false (by omega)
      clear hR hf hw1
      go_wp2_with fail
      go_loopw [27] (fun i wr => ∃ k : Nat, k ≤ a.size ∧ i = .int .i64 k ∧ Row wr w.heap.size (b.size + 1) (D a b k) ∧ Below w.heap.size w wr) (fun i _ => a.size - (intOf i).toNat)
      case atStart => exact ⟨0, Nat.zero_le _, rfl, hR0, hbe⟩
      case round =>
        clear hR0 hbe
        obtain ⟨i, hi, rfl, hR, hbe⟩ := hrel
        by_cases hlt2 : i < a.size
        · have hc0 := row_cell hR (show 0 < b.size + 1 by omega)
          rw [D_right a b i (by omega)] at hc0
          have hz0 := row_free hR 0
          have hR1 := row_set hR 0 (i + 1) (mid a b i 0) (fun x _ => mid_zero a b i x (by omega))
          have hbe1 := hbe.setCell (p := ⟨w.heap.size, 0, none⟩) (Nat.le_refl _) (.int .i64 ((i + 1 : Nat) : Int))
          have ei : ((i + 1 : Nat) : Int) = (i : Int) + 1 := by omega
          rw [ei] at hR1 hbe1
          have hp0 : Hid (i = D a b i 0) := (D_right a b i (by omega)).symm
          clear ei hR hbe
          go_wp2_with fail
          clear hc0 hz0
          go_loopw [8, 39] (fun d jv wr => ∃ j p : Nat, j ≤ b.size ∧ jv = .int .i64 j ∧ d = .int .i64 p ∧ Hid (p = D a b i j) ∧ p ≤ 1024 ∧ Row wr w.heap.size (b.size + 1) (mid a b i j) ∧ Below w.heap.size w wr) (fun _ jv _ => b.size - (intOf jv).toNat)
          case atStart => exact ⟨0, i, Nat.zero_le _, rfl, rfl, hp0, by omega, hR1, hbe1⟩
          case round =>
            clear hR1 hbe1 hp0
            obtain ⟨j, p, hj, rfl, rfl, hp, hp2, hR, hbe⟩ := hrel
            by_cases hlt3 : j < b.size
            · have hq := D_le a b i (j + 1)
              have hr := D_le a b (i + 1) j
              obtain ⟨q, hqe⟩ : ∃ q : Nat, q = D a b i (j + 1) := ⟨_, rfl⟩
              obtain ⟨r, hre⟩ : ∃ r : Nat, r = D a b (i + 1) j := ⟨_, rfl⟩
              have hc1 := row_cell hR (show j + 1 < b.size + 1 by omega)
              have hc2 := row_cell hR (show j < b.size + 1 by omega)
              rw [mid_next, ← hqe] at hc1
              rw [mid_here, ← hre] at hc2
              rw [← hqe] at hq
              rw [← hre] at hr
              have hz1 := row_free hR (j + 1)
              have hq1 : q ≤ 1024 := by omega
              have hr1 : r ≤ 1024 := by omega
              have Hq : Hid (q = D a b i (j + 1)) := hqe
              have Hr : Hid (r = D a b (i + 1) j) := hre
              clear hqe hre hq hr
              cases hab : ((a[i].toNat : Int) == (b[j].toNat : Int))
              · have hcs := cost_no hab
                go_wp2
                go_quiet (fail)
                go_wp2
                go_region
                go_wp2
                go_roundw
                case rel =>
                  have st := rel_step (x := (p : Int) + 1) (m := nq + 1) hR hbe hlt2 hlt3 hp Hq Hr hcs (by omega)
                  exact ⟨j + 1, q, by omega, by go_num, rfl, Hq, hq1, st.1, st.2⟩
                case measure => simp [intOf]; omega
              · have hcs := cost_yes hab
                go_wp2
                go_quiet (fail)
                go_wp2
                go_region
                go_wp2
                go_roundw
                case rel =>
                  have st := rel_step (x := (p : Int)) (m := nq + 1) hR hbe hlt2 hlt3 hp Hq Hr hcs (by omega)
                  exact ⟨j + 1, q, by omega, by go_num, rfl, Hq, hq1, st.1, st.2⟩
                case measure => simp [intOf]; omega
            · obtain rfl : j = b.size := by omega
              have hR' : Row wr w.heap.size (b.size + 1) (D a b (i + 1)) := row_congr hR (fun x hx => mid_full a b i x (by omega))
              clear hR hp hj
              go_wp2
              go_roundw
              case rel => exact ⟨i + 1, by omega, by go_num, hR', hbe⟩
              case measure => simp [intOf]; omega
        · obtain rfl : i = a.size := by omega
          have hc := row_cell hR (show b.size < b.size + 1 by omega)
          rw [D_full] at hc
          clear hR hi
          go_wp2
          go_ret
          exact ⟨rfl, hbe⟩
end Go.Proofs.Qxb6602101a.Walk
