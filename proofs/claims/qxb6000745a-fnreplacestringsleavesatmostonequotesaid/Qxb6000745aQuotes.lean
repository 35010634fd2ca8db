/-
  THE WALK OF THE LAW: at most one quote is left (7).
-/
import Derived.Test.Qxb6000745aRep
namespace Go.Proofs.Qxb6000745a
open Go.RowKit

set_option maxHeartbeats 800000 in
theorem quote_far (s : ByteArray) (hs : s.size ≤ maxLen) (hbig : 65536 < s.size) (w : World) :
    Calls Try.prog 7 #[.string s] w fun e w' => e = .returned (.bool true) ∧ Below w.heap.size w w' := by
  have hl := hs
  unfold maxLen at hl
  go_enter Try.func7, Try.ntmps7
  go_wp2_with fail
  refine (zzBytes23 s hs _).mono ?_
  rintro e w' ⟨rfl | rfl, rfl⟩
  all_goals
    go_wp2
    go_ret
    exact ⟨rfl, Below.refl _ _⟩

set_option maxHeartbeats 800000 in
theorem quote_near (s : ByteArray) (hs : s.size ≤ 65536) (w : World) :
    Calls Try.prog 7 #[.string s] w fun e w' => e = .returned (.bool true) ∧ Below w.heap.size w w' := by
  obtain ⟨o, ho⟩ : ∃ o : ByteArray, o = ⟨(rep s.size s.data.toList).toArray⟩ := ⟨_, rfl⟩
  have hol : o.data.toList = rep s.size s.data.toList := by rw [ho]
  have hoz : o.size = (rep s.size s.data.toList).length := by rw [size_of o _ hol]
  have hsl : s.data.toList.length = s.size := rfl
  have h1 : o.size ≤ s.size := by have := rep_len s.size s.data.toList; omega
  obtain ⟨a, ha⟩ : ∃ a, a = cq o.data.toList := ⟨_, rfl⟩
  obtain ⟨b, hb⟩ : ∃ b, b = cq s.data.toList := ⟨_, rfl⟩
  have h2 : a ≤ 1 := by rw [ha, hol]; exact rep_cq _ _ (by omega)
  have H3 : Hid (b = 0 → o = s) := hidden (fun h => by
    rw [hb] at h
    have := rep_free s.size s.data.toList ((cq_free _).1 h)
    rw [this] at hol
    rw [str_eq o _ hol, ← str_eq s _ rfl])
  have HA := hidden ha
  have HB := hidden hb
  have HE := hidden ho
  clear hoz hol hsl ho ha hb
  go_enter Try.func7, Try.ntmps7
  go_wp2_with fail
  refine (zzBytes23 s (by unfold maxLen; omega) _).mono ?_
  rintro e w' ⟨rfl | rfl, rfl⟩
  · go_wp2_with fail
    refine (zzrep_walk s (by omega) _).mono ?_
    rintro e w1 ⟨rfl, hb1⟩
    rw [← HE.out]
    go_wp2_with fail
    refine (quotes_walk o (by omega) _).mono ?_
    rintro e w' ⟨rfl, rfl⟩
    rw [← HA.out]
    go_wp2_with fail
    refine (quotes_walk s (by omega) _).mono ?_
    rintro e w' ⟨rfl, rfl⟩
    rw [← HB.out]
    by_cases hb0 : b = 0
    · have he := H3.out hb0
      subst hb0
      subst he
      go_wp2
      go_ret
      exact ⟨rfl, hb1⟩
    · have hbf : ((b : Int) == 0) = false := beq_eq_false_iff_ne.2 (by omega)
      go_wp2
      go_ret
      exact ⟨rfl, hb1⟩
  · go_wp2
    go_ret
    exact ⟨rfl, Below.refl _ _⟩

theorem quote_walk (s : ByteArray) (hs : s.size ≤ maxLen) (w : World) :
    Calls Try.prog 7 #[.string s] w fun e w' => e = .returned (.bool true) ∧ Below w.heap.size w w' := by
  by_cases h : 65536 < s.size
  · exact quote_far s hs h w
  · exact quote_near s (by omega) w
end Go.Proofs.Qxb6000745a
