/-
  THE WALK OF zzUtoa: an array of the call's own, written from its end.
-/
import Derived.Test.Qxb6601560aSize
import Derived.Deep.OwnRows
import Derived.Laws.BytesArg
namespace Go.Proofs.Qxb6601560a.Walk
open Go.RowKit
set_option linter.unusedVariables false

/-- The array: twenty bytes, the numbers g. -/
def Arr (w : World) (b : Nat) (g : Nat → Int) : Prop := w.rowIs b 41 20 (fun j => .int .u8 (g j))

theorem arr_start (w : World) : Arr (w.alloc (Obj.cells #[Value.int .u8 0, Value.int .u8 0, Value.int .u8 0, Value.int .u8 0, Value.int .u8 0, Value.int .u8 0, Value.int .u8 0, Value.int .u8 0, Value.int .u8 0, Value.int .u8 0, Value.int .u8 0, Value.int .u8 0, Value.int .u8 0, Value.int .u8 0, Value.int .u8 0, Value.int .u8 0, Value.int .u8 0, Value.int .u8 0, Value.int .u8 0, Value.int .u8 0] 41)) w.heap.size (fun _ => 0) := by
  refine World.rowIs_alloc w _ 41 _ ?_
  intro i hi
  have hi' : i < 20 := hi
  have h := (show ∀ k : Fin 20, (#[Value.int .u8 0, Value.int .u8 0, Value.int .u8 0, Value.int .u8 0, Value.int .u8 0, Value.int .u8 0, Value.int .u8 0, Value.int .u8 0, Value.int .u8 0, Value.int .u8 0, Value.int .u8 0, Value.int .u8 0, Value.int .u8 0, Value.int .u8 0, Value.int .u8 0, Value.int .u8 0, Value.int .u8 0, Value.int .u8 0, Value.int .u8 0, Value.int .u8 0] : Array Value)[k.1]? = some (Value.int .u8 0) from by
    intro k
    rcases k with ⟨k, hk⟩
    have : k = 0 ∨ k = 1 ∨ k = 2 ∨ k = 3 ∨ k = 4 ∨ k = 5 ∨ k = 6 ∨ k = 7 ∨ k = 8 ∨ k = 9 ∨ k = 10 ∨ k = 11 ∨ k = 12 ∨ k = 13 ∨ k = 14 ∨ k = 15 ∨ k = 16 ∨ k = 17 ∨ k = 18 ∨ k = 19 := by omega
    rcases this with rfl | rfl | rfl | rfl | rfl | rfl | rfl | rfl | rfl | rfl | rfl | rfl | rfl | rfl | rfl | rfl | rfl | rfl | rfl | rfl <;> rfl) ⟨i, hi'⟩
  exact h
theorem info5b : (Try.prog.info? 5).map (fun i => (i.zero, i.size, i.bytes)) = some (some (.int .u8 0), 1, 1) := by kernel_rfl
theorem arr41 : Try.prog.arrayLen 41 = 20 := by kernel_rfl
theorem elem41 : Try.prog.elem 41 = 5 := by kernel_rfl
/-- 'buf[i:]' at a pointer to the array. -/
theorem run_tail (b i : Nat) (h1 : 1 ≤ i) (h2 : i ≤ 20) (w : World) :
    (Instr.sliceAt 41 (.pointer (some ⟨b, 0, none⟩)) (some (.int .i64 ((i : Int) - 1))) none none).run Try.prog w = .ok (.slice (some ⟨b, i - 1, none⟩) (20 - (i - 1)) (20 - (i - 1))) w := by
  obtain ⟨i0, hi, hz0, hz1, hz2⟩ := info_parts info5b
  rw [run_sliceAt_array_l w 41 ⟨b, 0, none⟩ (by rw [arr41, elem41]; exact Try.underlying41) .i64 _ (by omega) (by rw [arr41]; omega), arr41, elem41]
  have e : ((i : Int) - 1).toNat = i - 1 := by omega
  have e2 : ¬ 20 = i - 1 := by omega
  simp only [sizeOf, typeInfo, slicedAt, e, if_neg e2]
  simp [hi, hz1, Result.andThen, Addr.add]
  exact fun h => h.symm
theorem pow_down {m i : Nat} (h : Hid (m < 10 ^ i)) (hi : 1 ≤ i) : Hid (m / 10 < 10 ^ (i - 1)) := by
  have h' : m < 10 ^ i := h
  obtain ⟨k, rfl⟩ : ∃ k, i = k + 1 := ⟨i - 1, by omega⟩
  show m / 10 < 10 ^ k
  rw [Nat.pow_succ] at h'
  omega
theorem pow_end {m i : Nat} (h : Hid (m / 10 < 10 ^ (i - 1))) (hz : ¬ m / 10 = 0) : 2 ≤ i := by
  have h' : m / 10 < 10 ^ (i - 1) := h
  by_cases e : i - 1 = 0
  · rw [e] at h'
    omega
  · omega
/-- The array behind a store. -/
def put (g : Nat → Int) (i : Nat) (d : Int) : Nat → Int := fun j => if j = i then d else g j
theorem arr_put {w : World} {b : Nat} {g : Nat → Int} (h : Arr w b g) (i : Nat) (d : Int) : Arr (w.setCell ⟨b, i, none⟩ (.int .u8 d)) b (put g i d) := by
  refine (World.rowIs.set h i (.int .u8 d)).congr fun j _ => ?_
  unfold put
  by_cases e : j = i <;> simp [e]
/-- From place i on all are digits. -/
def Digs (g : Nat → Int) (i : Nat) : Prop := ∀ j, i ≤ j → j < 20 → dg (g j) = true
theorem digs_put {g : Nat → Int} {i : Nat} (h : Digs g i) (hi : 1 ≤ i) (d : Int) (h1 : 48 ≤ d) (h2 : d ≤ 57) : Digs (put g (i - 1) d) (i - 1) := by
  intro j hj hj2
  unfold put
  by_cases e : j = i - 1
  · rw [if_pos e]; exact dg_of h1 h2
  · rw [if_neg e]; exact h j (by omega) hj2

/-- The text from place i on. -/
def tail (g : Nat → Int) (i : Nat) : ByteArray := strOfNums ((List.range (20 - i)).map fun j => g (i + j))
theorem tail_sz (g : Nat → Int) (i : Nat) : (tail g i).size = 20 - i := by
  unfold tail
  rw [strOfNums_size]
  simp
theorem tail_size (g : Nat → Int) (i : Nat) (h : i < 20) : 0 < (tail g i).size := by rw [tail_sz]; omega
theorem tail_len (g : Nat → Int) (i : Nat) : (tail g i).size ≤ 20 := by rw [tail_sz]; omega
theorem tail_run {g : Nat → Int} {i : Nat} (h : Digs g i) : Run (tail g i) (tail g i).size := by
  intro j hj _
  have hj' := hj
  rw [tail_sz] at hj'
  have e : (tail g i)[j] = UInt8.ofNat (g (i + j)).toNat := by
    rw [← at_byte (tail g i) j hj]
    simp [tail, strOfNums_data]
  have hd := dg_yes (h (i + j) (by omega) (by omega))
  rw [e]
  refine dg_of ?_ ?_
  · simp; omega
  · simp; omega
theorem arr_conv {w : World} {b : Nat} {g : Nat → Int} (h : Arr w b g) (i : Nat) (hi : i < 20) :
    (convert 40 9 (.slice (some ⟨b, i, none⟩) (20 - i) (20 - i))).run Try.prog w = .ok (.string (tail g i)) w := by
  refine run_convert_bytes_arg (P := Try.prog) w 40 5 Try.underlying40 Try.underlying5 b i (20 - i) (20 - i) ((List.range (20 - i)).map fun j => g (i + j)) (by simp) ?_ 9 Try.underlying9
  intro j hj
  rw [World.rowIs.cell h (show i + j < 20 by omega)]
  simp [hj]

set_option maxHeartbeats 1000000 in
theorem utoa_any (n : Nat) (hn : n ≤ 18446744073709551615) (w : World) :
    Calls Try.prog 22 #[.int .u64 n] w fun e w' => ∃ u : ByteArray, e = .returned (.string u) ∧ 0 < u.size ∧ u.size ≤ 20 ∧ Run u u.size ∧ Below w.heap.size w w' := by
  go_enter Try.func22, Try.ntmps22
  go_wp2_with fail
  go_loopw [0, 4] (fun nv iv wr => ∃ (i m : Nat) (g : Nat → Int), 1 ≤ i ∧ i ≤ 20 ∧ m ≤ 18446744073709551615 ∧ Hid (m < 10 ^ i) ∧ nv = .int .u64 m ∧ iv = .int .i64 i ∧ Arr wr w.heap.size g ∧ Digs g i ∧ Below w.heap.size w wr)
    (fun _ iv _ => (intOf iv).toNat)
  case atStart => exact ⟨20, n, fun _ => 0, by omega, by omega, hn, show n < 10 ^ 20 from by omega, rfl, rfl, arr_start w, fun j h1 h2 => absurd h2 (by omega), (Below.refl _ _).alloc (Nat.le_refl _) _⟩
  case round =>
    obtain ⟨i, m, g, hi1, hi2, hm, hp, rfl, rfl, hA, hD, hb⟩ := hrel
    have hc := World.rowIs.cell hA (show i - 1 < 20 by omega)
    have hf := World.rowIs.frozen hA (i - 1)
    by_cases hz : m / 10 = 0
    · have hz' : (((m : Int) / 10) == 0) = true := beq_iff_eq.2 (by omega)
      have hdn : 48 ≤ 48 + (m : Int) % 10 ∧ 48 + (m : Int) % 10 ≤ 57 := by omega
      have hA' := arr_put hA (i - 1) (48 + (m : Int) % 10)
      have hD' := digs_put hD hi1 (48 + (m : Int) % 10) hdn.1 hdn.2
      have hsl := run_tail w.heap.size i hi1 hi2
      have hconv := arr_conv hA' (i - 1) (by omega)
      have hb' := hb.setCell (p := ⟨w.heap.size, i - 1, none⟩) (Nat.le_refl _) (.int .u8 (48 + (m : Int) % 10))
      clear hz hA hD hb hdn hA'
      go_wp2
      go_ret
      exact ⟨_, rfl, tail_size _ _ (by omega), tail_len _ _, tail_run hD', hb'⟩
    · have hz' : (((m : Int) / 10) == 0) = false := beq_eq_false_iff_ne.2 (by omega)
      have hdn : 48 ≤ 48 + (m : Int) % 10 ∧ 48 + (m : Int) % 10 ≤ 57 := by omega
      have hA' := arr_put hA (i - 1) (48 + (m : Int) % 10)
      have hD' := digs_put hD hi1 (48 + (m : Int) % 10) hdn.1 hdn.2
      have hb' := hb.setCell (p := ⟨w.heap.size, i - 1, none⟩) (Nat.le_refl _) (.int .u8 (48 + (m : Int) % 10))
      have hp' := pow_down hp hi1
      have hi3 := pow_end hp' hz
      clear hz hA hD hb hdn hp
      go_wp2
      go_roundw
      case rel => exact ⟨i - 1, m / 10, _, by omega, by omega, by omega, hp', by go_num, by go_num, hA', hD', hb'⟩
      case measure => simp [intOf]; omega
end Go.Proofs.Qxb6601560a.Walk
