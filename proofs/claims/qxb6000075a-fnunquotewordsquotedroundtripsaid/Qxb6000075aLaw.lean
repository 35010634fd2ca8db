/-
  THE WALK OF THE LAW (4).
-/
import Derived.Test.Qxb6000075aWords
namespace Go.Proofs.Qxb6000075a
open Go.RowKit

theorem size_bytes (l : List UInt8) : (⟨l.toArray⟩ : ByteArray).size = l.length := by simp [ByteArray.size]

set_option maxHeartbeats 2000000 in
set_option maxRecDepth 100000 in
theorem law_walk (a m b : ByteArray) (ha : a.size ≤ maxLen) (hm : m.size ≤ maxLen) (hb : b.size ≤ maxLen) (w : World) :
    Calls Try.prog 4 #[.string a, .string m, .string b] w fun e w' => e = .returned (.bool true) ∧ Below w.heap.size w w' := by
  have ha' := ha
  have hm' := hm
  have hb' := hb
  unfold maxLen at ha' hm' hb'
  by_cases h1 : 262144 < a.size ∨ 262144 < m.size ∨ 262144 < b.size
  · rcases (show 262144 < a.size ∨ (a.size ≤ 262144 ∧ 262144 < m.size) ∨ (a.size ≤ 262144 ∧ m.size ≤ 262144 ∧ 262144 < b.size) by omega) with h | ⟨h, h'⟩ | ⟨h, h', h''⟩
    all_goals
      clear h1
      go_enter Try.func4, Try.ntmps4
      go_wp2_with fail
      refine (zzBytes_walk a m b ha hm hb _).mono ?_
      rintro e w' ⟨rfl | rfl, rfl⟩
      all_goals
        go_wp2
        go_ret
        exact ⟨rfl, Below.refl _ _⟩
  · have la : a.size ≤ 262144 := by omega
    have lm : m.size ≤ 262144 := by omega
    have lb : b.size ≤ 262144 := by omega
    clear h1 ha' hm' hb'
    by_cases qa : hasQ a.data.toList = true
    · go_enter Try.func4, Try.ntmps4
      go_wp2_with fail
      refine (zzBytes_walk a m b ha hm hb _).mono ?_
      rintro e w' ⟨rfl | rfl, rfl⟩
      all_goals
        go_wp2_with (go_at_call 10; refine (hasQuote_walk _ (by assumption) _).mono ?_; rintro e w' ⟨rfl, rfl⟩)
        go_ret
        exact ⟨rfl, Below.refl _ _⟩
    · have qa' : hasQ a.data.toList = false := by simpa using qa
      by_cases qb : hasQ b.data.toList = true
      · go_enter Try.func4, Try.ntmps4
        go_wp2_with fail
        refine (zzBytes_walk a m b ha hm hb _).mono ?_
        rintro e w' ⟨rfl | rfl, rfl⟩
        all_goals
          go_wp2_with (go_at_call 10; refine (hasQuote_walk _ (by assumption) _).mono ?_; rintro e w' ⟨rfl, rfl⟩)
          go_ret
          exact ⟨rfl, Below.refl _ _⟩
      · have qb' : hasQ b.data.toList = false := by simpa using qb
        clear qa qb
        go_enter Try.func4, Try.ntmps4
        go_wp2_with fail
        refine (zzBytes_walk a m b ha hm hb _).mono ?_
        rintro e w' ⟨rfl | rfl, rfl⟩
        · go_wp2_with (go_at_call 10; refine (hasQuote_walk _ (by assumption) _).mono ?_; rintro e w' ⟨rfl, rfl⟩)
          refine (quoteWord_walk m lm _).mono ?_
          rintro e w1 ⟨rfl, hb1⟩
          have hem := (esc_len m.data.toList).2
          have hml : m.data.toList.length = m.size := rfl
          obtain ⟨q, hq⟩ : ∃ q, q = (⟨(34 :: (esc m.data.toList ++ [34])).toArray⟩ : ByteArray) := ⟨_, rfl⟩
          have hql : q.size ≤ 1048576 := by rw [hq, size_bytes]; simp; omega
          rw [← hq]
          have k1 := fun (wx : World) => run_string_add_sum (P := Try.prog) wx a q (by omega)
          have k2 := fun (wx : World) => run_string_add_sum (P := Try.prog) wx (a ++ q) b (by rw [ByteArray.size_append]; omega)
          have k3 := fun (wx : World) => run_string_add_sum (P := Try.prog) wx a m (by omega)
          have k4 := fun (wx : World) => run_string_add_sum (P := Try.prog) wx (a ++ m) b (by rw [ByteArray.size_append]; omega)
          have HQ := hidden hq
          clear hq hem hml
          go_wp2_with fail
          refine (zz_walk _ a.data.toList m.data.toList b.data.toList (by rw [HQ.out]; simp) qa' qb' la lm lb _).mono ?_
          rintro e w2 ⟨rfl, hb2⟩
          go_wp2
          go_ret
          refine ⟨?_, hb1.trans (hb2.mono hb1.size)⟩
          simp [ByteArray.toList_eq]
        · go_wp2
          go_ret
          exact ⟨rfl, Below.refl _ _⟩
end Go.Proofs.Qxb6000075a
