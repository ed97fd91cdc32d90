/-
  THE WALK OF zzQuotedEscape: a slice of bytes that the call makes, appended to within its capacity.
-/
import Derived.Test.Qxb6601560aScan
import Derived.Laws.BytesArg
namespace Go.Proofs.Qxb6601560a.Walk
open Go.RowKit
set_option linter.unusedVariables false

theorem info5 : (Try.prog.info? 5).map (fun i => (i.zero, i.size, i.bytes)) = some (some (.int .u8 0), 1, 1) := by kernel_rfl

/-- A byte as a cell. -/
def bv (c : UInt8) : Value := .int .u8 (c.toNat : Int)

/-- What the buffer holds: the bytes L, at the head of block B, room for 'cap'. -/
def Buf (w : World) (B cap : Nat) (L : List UInt8) : Prop := w.ownsRow B 5 1 (.slice (some ⟨B, 0, none⟩) L.length cap) L.length (L.map bv)

theorem below_app {w wr w2 : World} {o : Obj} (hb : Below w.heap.size w wr) (hg : (wr.alloc o).grownBy w2 (some w.heap.size)) : Below w.heap.size w w2 :=
  (hb.alloc hb.size o).grown hg (by have := hb.size; simp; omega) (by intro k h; cases h; exact Nat.le_refl _)
theorem one_new (w : World) (v : Value) (t : TypeId) : ∀ (j : Nat) (u : Value), [v][j]? = some u → (w.alloc (Obj.cells #[v] t)).cell? ((⟨w.heap.size, 0, none⟩ : Addr).add j) = some u := by
  intro j u hj
  match j, hj with
  | 0, hj => simp at hj; subst hj; simp [Addr.add]
theorem one_cell (n : Int) : ∀ u ∈ [Value.int .u8 n], u.oneCell' = true := by
  intro u hu
  simp at hu
  subst hu
  rfl
theorem take_snoc (s : ByteArray) (k : Nat) (h : k < s.size) : s.data.toList.take (k + 1) = s.data.toList.take k ++ [s[k]] := by
  rw [List.take_succ_eq_append_getElem (by simpa using h)]; rfl
theorem esc_hit {s : ByteArray} {k : Nat} {L : List UInt8} (hL : Hid (L = Pl.esc (s.data.toList.take k))) (hlt : k < s.size) (h : s[k] = 34 ∨ s[k] = 92) : Hid (L ++ [92, s[k]] = Pl.esc (s.data.toList.take (k + 1))) := by
  show _ = _
  rw [take_snoc s k hlt, Pl.esc_snoc, if_pos h, hL.out]
theorem esc_miss {s : ByteArray} {k : Nat} {L : List UInt8} (hL : Hid (L = Pl.esc (s.data.toList.take k))) (hlt : k < s.size) (h : ¬ (s[k] = 34 ∨ s[k] = 92)) : Hid (L ++ [s[k]] = Pl.esc (s.data.toList.take (k + 1))) := by
  show _ = _
  rw [take_snoc s k hlt, Pl.esc_snoc, if_neg h, hL.out]
theorem buf_one {w : World} {B cap : Nat} {L : List UInt8} {c : UInt8} (h : w.ownsRow B 5 1 (.slice (some ⟨B, 0, none⟩) (L.length + 1) cap) (L.length + 1) (L.map bv ++ [.int .u8 (c.toNat : Int)])) : Buf w B cap (L ++ [c]) := by
  unfold Buf
  rw [List.length_append, List.map_append]
  exact h
theorem buf_two {w : World} {B cap : Nat} {L : List UInt8} {c : UInt8} (h : w.ownsRow B 5 1 (.slice (some ⟨B, 0, none⟩) (L.length + 1 + 1) cap) (L.length + 1 + 1) (L.map bv ++ [.int .u8 92, .int .u8 (c.toNat : Int)])) : Buf w B cap (L ++ [92, c]) := by
  unfold Buf
  rw [List.length_append, List.map_append]
  exact h
theorem buf_nums {w : World} {B cap : Nat} {L : List UInt8} (h : Buf w B cap L) : ∀ i, i < L.length → w.cell? ⟨B, 0 + i, none⟩ = some (.int .u8 ((L.map fun c => (c.toNat : Int)).getD i 0)) := by
  intro i hi
  rw [Nat.zero_add, World.ownsRow.cellAt h i (by omega)]
  simp [bv, hi]
theorem str_of (L : List UInt8) : strOfNums (L.map fun c => (c.toNat : Int)) = ⟨L.toArray⟩ := by
  unfold strOfNums
  rw [List.map_map]
  congr 2
  rw [List.map_congr_left (g := id) (fun c _ => by simp), List.map_id]

set_option maxHeartbeats 1000000 in
theorem escape_any (s : ByteArray) (hs : s.size ≤ 524288) (w : World) :
    Calls Try.prog 17 #[.string s] w fun e w' => e = .returned (.string ⟨(Pl.esc s.data.toList).toArray⟩) ∧ Below w.heap.size w w' := by
  obtain ⟨i0, hi, hz0, hz1, hz2⟩ := info_parts info5
  go_enter Try.func17, Try.ntmps17
  go_wp2_with (at_make; refine wpList_make_own _ rfl _ _ 40 rfl w.heap.size 5 i0 (.int .u8 0) 1 Try.underlying40 hi hz0 hz1 .i64 .i64 _ (2 * s.size) rfl rfl ?c1 ?c2 ?c3 ?c4 ?_)
  case c1 => omega
  case c2 => rw [hz2]; omega
  case c3 => unfold maxLen; omega
  case c4 => exact Nat.le_refl _
  intro w1 hown1 hgrow1
  have hb1 : Below w.heap.size w w1 := (Below.refl _ _).grown hgrow1 (Nat.le_refl _) (by intro k h; cases h)
  have H1 : Buf w1 w.heap.size (2 * s.size) [] := hown1
  clear hown1 hgrow1
  go_wp2_with fail
  go_loopw [3, 4] (fun v i wr => ∃ (k : Nat) (L : List UInt8), k ≤ s.size ∧ i = .int .i64 k ∧ Hid (L = Pl.esc (s.data.toList.take k)) ∧ L.length ≤ 2 * k ∧ v = .slice (some ⟨w.heap.size, 0, none⟩) L.length (2 * s.size) ∧ Buf wr w.heap.size (2 * s.size) L ∧ Below w.heap.size w wr)
    (fun _ i _ => s.size - (intOf i).toNat)
  case atStart => exact ⟨0, [], Nat.zero_le _, rfl, rfl, Nat.zero_le _, rfl, H1, hb1⟩
  case round =>
    clear H1 hb1
    obtain ⟨k, L, hk, rfl, hL, hLk, rfl, hbuf, hb⟩ := hrel
    by_cases hlt : k < s.size
    · by_cases hx : s[k] = 34 ∨ s[k] = 92
      · have hE := esc_hit hL hlt hx
        have hxx : Hid (s[k] = 34 ∨ s[k] = 92) := hx
        have h34 : ((s[k].toNat : Int) == 34) = true ∨ (((s[k].toNat : Int) == 34) = false ∧ ((s[k].toNat : Int) == 92) = true) := by
          rcases hx with e | e <;> rw [e] <;> decide
        clear hx hL
        rcases h34 with h34 | ⟨h34, h92⟩
        all_goals
          go_wp2_with (at_builtin; refine wpList_append_fits _ rfl (.tmp 25) (.tmp 26) 40 rfl w.heap.size 5 i0 1 Try.underlying40 hi hz1 w.heap.size L.length (2 * s.size) (L.map bv) rfl (World.ownsRow.alloc hbuf _) ⟨wr.heap.size, 0, none⟩ 1 1 [.int .u8 92] rfl rfl (one_new _ _ _) (one_cell _) (by omega) ?_)
          intro w2 hown2 hgrow2
          have hb2 := below_app hb hgrow2
          clear hgrow2 hb hbuf
          go_wp2_with (at_builtin; refine wpList_append_fits _ rfl (.tmp 28) (.tmp 32) 40 rfl w.heap.size 5 i0 1 Try.underlying40 hi hz1 w.heap.size (L.length + 1) (2 * s.size) (L.map bv ++ [.int .u8 92]) rfl (World.ownsRow.alloc hown2 _) ⟨w2.heap.size, 0, none⟩ 1 1 [.int .u8 (s[k].toNat : Int)] rfl rfl (one_new _ _ _) (one_cell _) (by omega) ?_)
          intro w3 hown3 hgrow3
          have hb3 := below_app hb2 hgrow3
          have hB := buf_two hown3
          clear hgrow3 hb2 hown2 hown3
          go_wp2
          go_roundw
          case rel => exact ⟨k + 1, L ++ [92, s[k]], by omega, by go_num, hE, by simp; omega, by simp, hB, hb3⟩
          case measure => simp [intOf]; omega
      · have hE := esc_miss hL hlt hx
        have hxx : Hid (¬ (s[k] = 34 ∨ s[k] = 92)) := hx
        have h34 : ((s[k].toNat : Int) == 34) = false := beq_eq_false_iff_ne.2 (fun e => hx (.inl (UInt8.toNat_inj.1 (by show s[k].toNat = 34; omega))))
        have h92 : ((s[k].toNat : Int) == 92) = false := beq_eq_false_iff_ne.2 (fun e => hx (.inr (UInt8.toNat_inj.1 (by show s[k].toNat = 92; omega))))
        clear hx hL
        go_wp2_with (at_builtin; refine wpList_append_fits _ rfl (.tmp 28) (.tmp 32) 40 rfl w.heap.size 5 i0 1 Try.underlying40 hi hz1 w.heap.size L.length (2 * s.size) (L.map bv) rfl (World.ownsRow.alloc hbuf _) ⟨wr.heap.size, 0, none⟩ 1 1 [.int .u8 (s[k].toNat : Int)] rfl rfl (one_new _ _ _) (one_cell _) (by omega) ?_)
        intro w3 hown3 hgrow3
        have hb3 := below_app hb hgrow3
        have hB := buf_one hown3
        clear hgrow3 hb hbuf hown3
        go_wp2
        go_roundw
        case rel => exact ⟨k + 1, L ++ [s[k]], by omega, by go_num, hE, by simp; omega, by simp, hB, hb3⟩
        case measure => simp [intOf]; omega
    · have hconv := run_convert_bytes_arg (P := Try.prog) wr 40 5 Try.underlying40 Try.underlying5 w.heap.size 0 L.length (2 * s.size) (L.map fun c => (c.toNat : Int)) (by simp) (buf_nums hbuf) 9 Try.underlying9
      rw [str_of] at hconv
      go_wp2
      go_ret
      refine ⟨?_, hb⟩
      rw [List.take_of_length_le (by rw [len_data]; omega)] at hL
      exact congrArg (fun l : List UInt8 => Ending.returned (.string ⟨l.toArray⟩)) hL.out
end Go.Proofs.Qxb6601560a.Walk
