/-
  THE WALK OF THE LAW: one escaped literal becomes one mark (6).
-/
import Derived.Test.Qxb6000745aSql
namespace Go.Proofs.Qxb6000745a
open Go.RowKit

set_option maxHeartbeats 2000000 in
set_option maxRecDepth 100000 in
theorem mask_walk (p t q : ByteArray) (hp : p.size ≤ maxLen) (ht : t.size ≤ maxLen) (hq : q.size ≤ maxLen) (w : World) :
    Calls Try.prog 6 #[.string p, .string t, .string q] w fun e w' => e = .returned (.bool true) ∧ Below w.heap.size w w' := by
  have hp' := hp
  have ht' := ht
  have hq' := hq
  unfold maxLen at hp' ht' hq'
  by_cases h1 : 65536 < p.size ∨ 65536 < t.size ∨ 65536 < q.size
  · rcases (show 65536 < p.size ∨ (p.size ≤ 65536 ∧ 65536 < t.size) ∨ (p.size ≤ 65536 ∧ t.size ≤ 65536 ∧ 65536 < q.size) by omega) with h | ⟨h, h'⟩ | ⟨h, h', h''⟩
    all_goals
      clear h1
      go_enter Try.func6, Try.ntmps6
      go_wp2_with fail
      refine (zzBytes19 p t q hp ht hq _).mono ?_
      rintro e w' ⟨rfl | rfl, rfl⟩
      all_goals
        go_wp2
        go_ret
        exact ⟨rfl, Below.refl _ _⟩
  · have lp : p.size ≤ 65536 := by omega
    have lt : t.size ≤ 65536 := by omega
    have lq : q.size ≤ 65536 := by omega
    clear h1 hp' ht' hq'
    obtain ⟨a, ha⟩ : ∃ a, a = cq p.data.toList := ⟨_, rfl⟩
    obtain ⟨b, hb⟩ : ∃ b, b = cq q.data.toList := ⟨_, rfl⟩
    have HA := hidden ha
    have HB := hidden hb
    clear ha hb
    by_cases qa : a = 0
    · subst qa
      by_cases qb : b = 0
      · subst qb
        have fp : Hid (39 ∉ p.data.toList) := (cq_free _).1 HA.out.symm
        have fq : Hid (39 ∉ q.data.toList) := (cq_free _).1 HB.out.symm
        go_enter Try.func6, Try.ntmps6
        go_wp2_with fail
        refine (zzBytes19 p t q hp ht hq _).mono ?_
        rintro e w' ⟨rfl | rfl, rfl⟩
        · go_wp2_with fail
          refine (quotes_walk p (by omega) _).mono ?_
          rintro e w' ⟨rfl, rfl⟩
          rw [← HA.out]
          go_wp2_with fail
          refine (quotes_walk q (by omega) _).mono ?_
          rintro e w' ⟨rfl, rfl⟩
          rw [← HB.out]
          go_wp2_with fail
          refine (sql_walk t lt _).mono ?_
          rintro e w1 ⟨rfl, hb1⟩
          have hdl := dbl_len t.data.toList
          have hml : t.data.toList.length = t.size := rfl
          obtain ⟨d, hd⟩ : ∃ d, d = (⟨(39 :: (dbl t.data.toList ++ [39])).toArray⟩ : ByteArray) := ⟨_, rfl⟩
          have hdz : d.size ≤ 131074 := by rw [hd, size_bytes]; simp; omega
          rw [← hd]
          have k1 := fun (wx : World) => run_string_add_sum (P := Try.prog) wx p d (by omega)
          have k2 := fun (wx : World) => run_string_add_sum (P := Try.prog) wx (p ++ d) q (by rw [ByteArray.size_append]; omega)
          have k3 := fun (wx : World) => run_string_add_sum (P := Try.prog) wx p ⟨#[63]⟩ (by have : (⟨#[63]⟩ : ByteArray).size = 1 := rfl; omega)
          have k4 := fun (wx : World) => run_string_add_sum (P := Try.prog) wx (p ++ ⟨#[63]⟩) q (by have : (⟨#[63]⟩ : ByteArray).size = 1 := rfl; rw [ByteArray.size_append]; omega)
          have HD := hidden hd
          have hsz : (p ++ d ++ q).size ≤ 1048576 := by rw [ByteArray.size_append, ByteArray.size_append]; omega
          have HR : Hid (rep (p ++ d ++ q).size (p ++ d ++ q).data.toList = p.data.toList ++ 63 :: q.data.toList) := by
            unfold Hid
            have hl : (p ++ d ++ q).data.toList = p.data.toList ++ (39 :: (dbl t.data.toList ++ 39 :: q.data.toList)) := by
              rw [hd]; simp
            have hn : (p ++ d ++ q).size = ((p ++ d ++ q).size - 1) + 1 := by
              have : 0 < (p ++ d ++ q).size := by rw [size_of _ _ hl]; simp; omega
              omega
            rw [hl, hn]
            exact rep_one _ _ _ _ fp.out fq.out
          clear hd hdl hml
          go_wp2_with fail
          refine (zzrep_walk _ hsz _).mono ?_
          rintro e w2 ⟨rfl, hb2⟩
          rw [HR.out]
          go_wp2
          go_ret
          refine ⟨?_, hb1.trans (hb2.mono hb1.size)⟩
          simp [ByteArray.toList_eq]
        · go_wp2
          go_ret
          exact ⟨rfl, Below.refl _ _⟩
      · have hbf : ((b : Int) == 0) = false := beq_eq_false_iff_ne.2 (by omega)
        have hbt : ((b : Int) != 0) = true := by rw [bne_iff_ne]; omega
        go_enter Try.func6, Try.ntmps6
        go_wp2_with fail
        refine (zzBytes19 p t q hp ht hq _).mono ?_
        rintro e w' ⟨rfl | rfl, rfl⟩
        · go_wp2_with fail
          refine (quotes_walk p (by omega) _).mono ?_
          rintro e w' ⟨rfl, rfl⟩
          rw [← HA.out]
          go_wp2_with fail
          refine (quotes_walk q (by omega) _).mono ?_
          rintro e w' ⟨rfl, rfl⟩
          rw [← HB.out]
          go_wp2
          go_ret
          exact ⟨rfl, Below.refl _ _⟩
        · go_wp2
          go_ret
          exact ⟨rfl, Below.refl _ _⟩
    · have haf : ((a : Int) == 0) = false := beq_eq_false_iff_ne.2 (by omega)
      have hat : ((a : Int) != 0) = true := by rw [bne_iff_ne]; omega
      go_enter Try.func6, Try.ntmps6
      go_wp2_with fail
      refine (zzBytes19 p t q hp ht hq _).mono ?_
      rintro e w' ⟨rfl | rfl, rfl⟩
      · go_wp2_with fail
        refine (quotes_walk p (by omega) _).mono ?_
        rintro e w' ⟨rfl, rfl⟩
        rw [← HA.out]
        go_wp2
        go_ret
        exact ⟨rfl, Below.refl _ _⟩
      · go_wp2
        go_ret
        exact ⟨rfl, Below.refl _ _⟩
end Go.Proofs.Qxb6000745a
