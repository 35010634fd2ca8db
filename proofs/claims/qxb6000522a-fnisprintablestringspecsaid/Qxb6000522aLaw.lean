/-
  THE WALK OF THE LAW (3), by cases of the argument.
-/
import Derived.Test.Qxb6000522aPrint
namespace Go.Proofs.Qxb6000522a
open Go.RowKit

set_option maxHeartbeats 1000000 in
theorem law_far (a0 : Option Addr) (len0 cap0 : Nat) (w : World) (hl : len0 ≤ maxLen) (hbig : 1048576 < len0) :
    Calls Try.prog 3 #[.slice a0 len0 cap0] w fun e w' => e = .returned (.bool true) ∧ Below w.heap.size w w' := by
  have hl' := hl
  unfold maxLen at hl'
  go_enter Try.func3, Try.ntmps3
  go_wp2_with fail
  refine (zzBytes_walk a0 len0 cap0 hl _).mono ?_
  rintro e w' ⟨rfl | rfl, rfl⟩
  all_goals
    go_wp2
    go_ret
    exact ⟨rfl, Below.refl _ _⟩

set_option maxHeartbeats 1000000 in
theorem law_nil (w : World) : Calls Try.prog 3 #[.slice none 0 0] w fun e w' => e = .returned (.bool true) ∧ Below w.heap.size w w' := by
  go_enter Try.func3, Try.ntmps3
  go_wp2_with fail
  refine (zzBytes_walk none 0 0 (by unfold maxLen; omega) _).mono ?_
  rintro e w' ⟨rfl | rfl, rfl⟩
  · go_wp2_with (go_at_call 9; refine (clone_nil_walk _).mono ?_; rintro e w' ⟨rfl, rfl⟩)
    refine wp_loop_rounds 1 ?_
    rw [rounds_succ]
    go_wp2_with (go_at_call 11; refine (zz_nil_walk _).mono ?_; rintro e w' ⟨rfl, rfl⟩)
    go_ret
    exact ⟨rfl, Below.refl _ _⟩
  · go_wp2
    go_ret
    exact ⟨rfl, Below.refl _ _⟩

set_option maxHeartbeats 1000000 in
theorem law_empty (x : Addr) (cap : Nat) (w : World) : Calls Try.prog 3 #[.slice (some x) 0 cap] w fun e w' => e = .returned (.bool true) ∧ Below w.heap.size w w' := by
  go_enter Try.func3, Try.ntmps3
  go_wp2_with fail
  refine (zzBytes_walk (some x) 0 cap (by unfold maxLen; omega) _).mono ?_
  rintro e w' ⟨rfl | rfl, rfl⟩
  · go_wp2_with (go_at_call 9; refine (clone_empty_walk x cap _).mono ?_; rintro e w1 ⟨rfl, hb1⟩)
    refine wp_loop_rounds 1 ?_
    rw [rounds_succ]
    go_wp2_with (go_at_call 11; refine (zz_walk _ 0 [] _ (by omega) rfl (fun j hj => absurd hj (by omega)) (fun j hj => absurd hj (by omega))).mono ?_; rintro e w2 ⟨rfl, rfl⟩)
    go_ret
    exact ⟨rfl, hb1⟩
  · go_wp2
    go_ret
    exact ⟨rfl, Below.refl _ _⟩

set_option maxHeartbeats 2000000 in
theorem law_full (b off len cap : Nat) (zs : List Int) (w : World) (hlen : len ≤ 1048576) (hz : len ≤ zs.length) (hb : b < w.heap.size)
    (hc : ∀ j, j < len → w.cell? ⟨b, off + j, none⟩ = some (.int .u8 (zs.getD j 0))) (hr : ∀ j, 0 ≤ (zs.take len).getD j 0 ∧ (zs.take len).getD j 0 ≤ 255) :
    Calls Try.prog 3 #[.slice (some ⟨b, off, none⟩) len cap] w fun e w' => e = .returned (.bool true) ∧ Below w.heap.size w w' := by
  go_enter Try.func3, Try.ntmps3
  go_wp2_with fail
  refine (zzBytes_walk _ len cap (by unfold maxLen; omega) _).mono ?_
  rintro e w' ⟨rfl | rfl, rfl⟩
  · go_wp2_with (go_at_call 9; refine (clone_walk b off len cap zs _ hlen hz hb hc).mono ?_; rintro e w1 ⟨rfl, hown, hb1⟩)
    obtain ⟨ys, hys⟩ : ∃ ys, ys = zs.take len := ⟨_, rfl⟩
    rw [← hys] at hown hr
    have hyl : ys.length = len := by rw [hys]; simp; omega
    clear hc hys hz
    have hcell : ∀ j, j < len → w1.cell? ⟨w.heap.size, j, none⟩ = some (.int .u8 (ys.getD j 0)) := fun j hj => by
      rw [hown.cellAt j (by omega)]
      simp [List.getD, List.getElem?_eq_getElem (show j < ys.length by omega)]
    have HC : Hid (∀ j, j < len → w1.cell? ⟨w.heap.size, j, none⟩ = some (.int .u8 (ys.getD j 0))) := hcell
    have HY : Hid (ys.length = len) := hyl
    clear hcell hown hyl
    go_loop [3, 4] (fun v i => ∃ k : Nat, k ≤ len ∧ i = .int .i64 k ∧ v = .bool (allPr (ys.take k))) (fun _ i => len - (intOf i).toNat)
    case atStart => exact ⟨0, Nat.zero_le _, rfl, rfl⟩
    case round =>
      obtain ⟨k, hk, rfl, rfl⟩ := hrel
      by_cases hlt : k < len
      · obtain ⟨c, hcc⟩ : ∃ c, c = ys.getD k 0 := ⟨_, rfl⟩
        have hcx : w1.cell? ⟨w.heap.size, k, none⟩ = some (.int .u8 c) := by rw [hcc]; exact HC.out k hlt
        have HT : Hid (allPr (ys.take (k + 1)) = (allPr (ys.take k) && pr c)) := by
          unfold Hid
          have hyl := HY.out
          rw [← allPr_snoc, List.take_succ_eq_append_getElem (by omega), hcc]
          simp [List.getD, List.getElem?_eq_getElem (show k < ys.length by omega)]
        clear hcc hr
        by_cases hp : pr c = true
        · go_wp2_with (go_at_call 10; refine (alphabet_walk c _).mono ?_; rintro e w2 ⟨rfl, rfl⟩)
          go_round
          case rel => exact ⟨k + 1, by omega, by go_num, by rw [HT.out, hp, Bool.and_true]⟩
          case measure => simp [intOf]; omega
        · have hp' : pr c = false := by simpa using hp
          go_wp2_with (go_at_call 10; refine (alphabet_walk c _).mono ?_; rintro e w2 ⟨rfl, rfl⟩)
          go_round
          case rel => exact ⟨k + 1, by omega, by go_num, by rw [HT.out, hp', Bool.and_false]⟩
          case measure => simp [intOf]; omega
      · have HK : Hid (allPr (ys.take k) = allPr ys) := by
          unfold Hid; rw [List.take_of_length_le (by have := HY.out; omega)]
        go_wp2_with (go_at_call 11; refine (zz_walk w.heap.size len ys _ hlen HY.out (fun j _ => hr j) HC.out).mono ?_; rintro e w2 ⟨rfl, rfl⟩)
        go_ret
        refine ⟨?_, hb1⟩
        simp [HK.out]
  · go_wp2
    go_ret
    exact ⟨rfl, Below.refl _ _⟩
end Go.Proofs.Qxb6000522a
