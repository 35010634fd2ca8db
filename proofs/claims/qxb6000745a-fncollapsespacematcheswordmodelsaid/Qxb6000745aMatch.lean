/-
  THE WALK OF THE LAW: collapseSpace against the word model (3).
-/
import Derived.Test.Qxb6000745aCol
import Derived.Test.Qxb6000745aModel
namespace Go.Proofs.Qxb6000745a
open Go.RowKit

set_option maxHeartbeats 800000 in
theorem match_far (s : ByteArray) (hs : s.size ≤ maxLen) (hbig : 65536 < s.size) (w : World) :
    Calls Try.prog 3 #[.string s] w fun e w' => e = .returned (.bool true) ∧ Below w.heap.size w w' := by
  have hl := hs
  unfold maxLen at hl
  go_enter Try.func3, Try.ntmps3
  go_wp2_with fail
  refine (zzBytes12 s hs _).mono ?_
  rintro e w' ⟨rfl | rfl, rfl⟩
  all_goals
    go_wp2
    go_ret
    exact ⟨rfl, Below.refl _ _⟩

set_option maxHeartbeats 800000 in
theorem match_near (s : ByteArray) (hs : s.size ≤ 65536) (w : World) :
    Calls Try.prog 3 #[.string s] w fun e w' => e = .returned (.bool true) ∧ Below w.heap.size w w' := by
  have HM : Hid (∀ w : World, Calls Try.prog 14 #[.string s] w fun e w' => e = .returned (.string ⟨(col false s.data.toList).toArray⟩) ∧ Below w.heap.size w w') := fun w => by
    by_cases h : s.size = 0
    · exact model_empty s h w
    · exact model_walk s (by omega) hs w
  go_enter Try.func3, Try.ntmps3
  go_wp2_with fail
  refine (zzBytes12 s (by unfold maxLen; omega) _).mono ?_
  rintro e w' ⟨rfl | rfl, rfl⟩
  · go_wp2_with fail
    refine (zzcol_walk s hs _).mono ?_
    rintro e w1 ⟨rfl, hb1⟩
    go_wp2_with fail
    refine (HM.out _).mono ?_
    rintro e w2 ⟨rfl, hb2⟩
    go_wp2
    go_ret
    exact ⟨by simp, hb1.trans (hb2.mono hb1.size)⟩
  · go_wp2
    go_ret
    exact ⟨rfl, Below.refl _ _⟩

theorem match_walk (s : ByteArray) (hs : s.size ≤ maxLen) (w : World) :
    Calls Try.prog 3 #[.string s] w fun e w' => e = .returned (.bool true) ∧ Below w.heap.size w w' := by
  by_cases h : 65536 < s.size
  · exact match_far s hs h w
  · exact match_near s (by omega) w
end Go.Proofs.Qxb6000745a
