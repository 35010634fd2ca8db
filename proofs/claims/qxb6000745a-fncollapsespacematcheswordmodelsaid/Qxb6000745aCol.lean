/-
  THE WALK OF collapseSpace (30) and of its alias (13).
-/
import Derived.Test.Qxb6000745aLeaves
namespace Go.Proofs.Qxb6000745a
open Go.RowKit

theorem acc_len {acc r l : List UInt8} (h : acc ++ r = col false l) : acc.length ≤ l.length := by
  have h1 := congrArg List.length h
  have h2 := col_len l false
  simp at h1 h2
  omega

set_option maxHeartbeats 2000000 in
set_option maxRecDepth 100000 in
theorem col_walk (s : ByteArray) (hs : s.size ≤ 65536) (w : World) :
    Calls Try.prog 30 #[.string s] w fun e w' => e = .returned (.string ⟨(col false s.data.toList).toArray⟩) ∧ Below w.heap.size w w' := by
  go_enter Try.func30, Try.ntmps30
  go_wp2
  go_loopw [4, 5] (fun v t wr => ∃ (k : Nat) (b : Bool) (acc : List UInt8), k ≤ s.size ∧ t = .int .i64 k ∧ v = .bool b ∧ acc ++ col b (s.data.toList.drop k) = col false s.data.toList ∧
      Lib.IsBuilderF 34 5 w.heap.size w.heap.size (Lib.byteCells acc) wr ∧ Below w.heap.size w wr) (fun _ t _ => s.size - (intOf t).toNat)
  case atStart => exact ⟨0, false, [], Nat.zero_le _, rfl, rfl, rfl, Lib.IsBuilderF.of (Lib.fresh_isBuilder 34 5 w), (Below.refl _ w).alloc (Nat.le_refl _) _⟩
  case round =>
    obtain ⟨k, b, acc, hk, rfl, rfl, hacc, hB, hbel⟩ := hrel
    have hbs := hbel.size
    have hal := acc_len hacc
    have hsl : s.data.toList.length = s.size := rfl
    have hml : (Lib.byteCells acc).length + 1 ≤ 140737488355328 := by rw [Lib.byteCells_length]; omega
    have hml2 : (Lib.byteCells acc ++ [Value.int .u8 32]).length + 1 ≤ 140737488355328 := by simp [Lib.byteCells_length]; omega
    clear hal hsl
    by_cases hlt : k < s.size
    · rw [drop_at s k hlt] at hacc
      by_cases hp : wh s[k] = true
      · have HA : Hid (acc ++ col true (s.data.toList.drop (k + 1)) = col false s.data.toList) := by
          unfold Hid; rw [← hacc, col, if_pos hp]
        clear hacc
        go_wp2_with (go_at_call 35; refine (space_walk s[k] _).mono ?_; rintro e w' ⟨rfl, rfl⟩)
        go_roundw
        case rel => exact ⟨k + 1, true, acc, by omega, by go_num, rfl, HA.out, hB, hbel⟩
        case measure => simp [intOf]; omega
      · have hp' : wh s[k] = false := by simpa using hp
        cases b with
        | false =>
          have HA : Hid ((acc ++ [s[k]]) ++ col false (s.data.toList.drop (k + 1)) = col false s.data.toList) := by
            unfold Hid; rw [← hacc, col, if_neg hp]; simp
          clear hacc
          go_wp2_with (first | (go_at_call 35; refine (space_walk s[k] _).mono ?_; rintro e w' ⟨rfl, rfl⟩) | (go_at_call 36; refine (Try.Builder_WriteByte_k w.heap.size w.heap.size _ _ _ hB hml hbs).mono ?_))
          rintro e w2 ⟨rfl, g1, g2, _⟩
          go_wp2
          go_roundw
          case rel => exact ⟨k + 1, false, acc ++ [s[k]], by omega, by go_num, rfl, HA.out, by rw [Lib.byteCells_append]; exact Or.inr g1, hbel.trans g2⟩
          case measure => simp [intOf]; omega
        | true =>
          have HA : Hid ((acc ++ [32] ++ [s[k]]) ++ col false (s.data.toList.drop (k + 1)) = col false s.data.toList) := by
            unfold Hid; rw [← hacc, col, if_neg hp]; simp
          clear hacc
          go_wp2_with (first | (go_at_call 35; refine (space_walk s[k] _).mono ?_; rintro e w' ⟨rfl, rfl⟩) | fail)
          refine (Try.Builder_WriteByte_k w.heap.size w.heap.size _ 32 _ hB hml hbs).mono ?_
          rintro e w2 ⟨rfl, g1, g2, _⟩
          go_wp2_with fail
          refine (Try.Builder_WriteByte_k w.heap.size w.heap.size _ _ _ (Or.inr g1) hml2 (Nat.le_trans hbs g2.size)).mono ?_
          rintro e w3 ⟨rfl, g3, g4, _⟩
          go_wp2
          go_roundw
          case rel => exact ⟨k + 1, false, acc ++ [32] ++ [s[k]], by omega, by go_num, rfl, HA.out, by rw [Lib.byteCells_append, Lib.byteCells_append]; exact Or.inr g3, (hbel.trans g2).trans g4⟩
          case measure => simp [intOf]; omega
    · have hd : s.data.toList.drop k = [] := List.drop_eq_nil_of_le (by simp; omega)
      rw [hd] at hacc
      cases b with
      | false =>
        have HA : Hid (acc = col false s.data.toList) := by unfold Hid; rw [← hacc]; simp [col]
        clear hacc hd
        go_wp2_with (go_at_call 37; refine (Try.Builder_String_any_k w.heap.size w.heap.size acc _ hB hbs).mono ?_)
        rintro e w2 ⟨rfl, _, g2, _⟩
        go_wp2
        go_ret
        exact ⟨by rw [← HA.out]; rfl, hbel.trans g2⟩
      | true =>
        have HA : Hid (acc ++ [32] = col false s.data.toList) := by unfold Hid; rw [← hacc]; simp [col]
        clear hacc hd
        go_wp2_with fail
        refine (Try.Builder_WriteByte_k w.heap.size w.heap.size _ 32 _ hB hml hbs).mono ?_
        rintro e w2 ⟨rfl, g1, g2, _⟩
        go_wp2_with fail
        refine (Try.Builder_String_any_k w.heap.size w.heap.size (acc ++ [32]) _ (by rw [Lib.byteCells_append]; exact Or.inr g1) (Nat.le_trans hbs g2.size)).mono ?_
        rintro e w3 ⟨rfl, _, g4, _⟩
        go_wp2
        go_ret
        exact ⟨by rw [← HA.out]; rfl, (hbel.trans g2).trans g4⟩

theorem zzcol_walk (s : ByteArray) (hs : s.size ≤ 65536) (w : World) :
    Calls Try.prog 13 #[.string s] w fun e w' => e = .returned (.string ⟨(col false s.data.toList).toArray⟩) ∧ Below w.heap.size w w' := by
  go_enter Try.func13, Try.ntmps13
  go_wp2_with (go_at_call 30; refine (col_walk s hs _).mono ?_; rintro e w1 ⟨rfl, hb1⟩)
  go_ret
  exact ⟨rfl, hb1⟩
end Go.Proofs.Qxb6000745a
