/-
  THE WALKS OF stringLiteralLen (39), replaceStrings (31) and its alias (22).
-/
import Derived.Test.Qxb6000745aLeaves
namespace Go.Proofs.Qxb6000745a
open Go.RowKit

theorem ne39 {c : UInt8} (h : c ≠ 39) : ((c.toNat : Int) == 39) = false := by
  refine beq_eq_false_iff_ne.2 fun e => h ?_
  apply UInt8.toNat_inj.1
  simpa using (by omega : c.toNat = 39)

set_option maxHeartbeats 800000 in
/-- The literal's length; the text opens with its quote. -/
theorem lit_walk (q : ByteArray) (hs : q.size ≤ 1048576) (h0 : 0 < q.size) (w : World) :
    Calls Try.prog 39 #[.string q] w fun e w' => e = .returned (.int .i64 (sll (q.data.toList.drop 1) 1 0 : Nat)) ∧ w = w' := by
  obtain ⟨N, hN⟩ : ∃ N, N = sll (q.data.toList.drop 1) 1 0 := ⟨_, rfl⟩
  rw [← hN]
  have HN := hidden hN
  clear hN
  go_enter Try.func39, Try.ntmps39
  go_wp2
  go_loop [3, 4] (fun p t => ∃ j lp : Nat, 1 ≤ j ∧ j ≤ q.size + 1 ∧ lp < j ∧ t = .int .i64 j ∧ p = .int .i64 lp ∧ sll (q.data.toList.drop j) j lp = N) (fun _ t => q.size + 1 - (intOf t).toNat)
  case atStart => exact ⟨1, 0, Nat.le_refl _, by omega, by omega, rfl, rfl, HN.out.symm⟩
  case round =>
    obtain ⟨j, lp, hj1, hj2, hlp, rfl, rfl, hr⟩ := hrel
    by_cases hlt : j < q.size
    · rw [drop_at q j hlt] at hr
      by_cases hc : q[j] = 39
      · have hn : q[j].toNat = 39 := by rw [hc]; rfl
        rw [hc] at hr
        by_cases hlt2 : j + 1 < q.size
        · rw [drop_at q (j + 1) hlt2] at hr
          by_cases hd : q[j + 1] = 39
          · have hn2 : q[j + 1].toNat = 39 := by rw [hd]; rfl
            rw [hd, sll_pair] at hr
            have HR := hidden hr
            clear hr
            go_wp2
            go_round
            case rel => exact ⟨j + 2, j, by omega, by omega, by omega, by go_num, rfl, HR.out⟩
            case measure => simp [intOf]; omega
          · have hn2 := ne39 hd
            rw [sll_close _ _ _ (by simpa using hd)] at hr
            have HR := hidden hr
            clear hr
            go_wp2
            go_ret
            exact ⟨ret_int (by have := HR.out; omega), rfl⟩
        · have hnil : q.data.toList.drop (j + 1) = [] := List.drop_eq_nil_of_le (by simp; omega)
          have hf : decide ((j : Int) + 1 < (q.size : Int)) = false := by simp; omega
          rw [hnil, sll_close _ _ _ (by simp)] at hr
          have HR := hidden hr
          clear hr hnil
          go_wp2
          go_ret
          exact ⟨ret_int (by have := HR.out; omega), rfl⟩
      · have hn := ne39 hc
        rw [sll_other _ _ _ _ hc] at hr
        have HR := hidden hr
        clear hr
        go_wp2
        go_round
        case rel => exact ⟨j + 1, lp, by omega, by omega, by omega, by go_num, rfl, HR.out⟩
        case measure => simp [intOf]; omega
    · have hnil : q.data.toList.drop j = [] := List.drop_eq_nil_of_le (by simp; omega)
      rw [hnil] at hr
      by_cases hz : 0 < lp
      · simp only [sll, hz, if_true] at hr
        have HR := hidden hr
        clear hr hnil
        go_wp2
        go_ret
        exact ⟨ret_int (by have := HR.out; omega), rfl⟩
      · simp only [sll, hz, if_false] at hr
        have HR := hidden hr
        clear hr hnil
        go_wp2
        go_ret
        exact ⟨ret_int (by have := HR.out; omega), rfl⟩

theorem idx_pre : ∀ (l : List UInt8), 39 ∈ l → idx l 39 = ((pre l).length : Int) ∧ ∃ t, post l = 39 :: t
  | [], h => by simp at h
  | c :: l, h => by
    by_cases hc : c = 39
    · subst hc
      exact ⟨by simp [idx, Lib.indexByte, pre], l, by simp [post]⟩
    · have hm : 39 ∈ l := by simpa [Ne.symm hc] using h
      obtain ⟨h1, t, h2⟩ := idx_pre l hm
      have hne : ¬ Lib.indexByte l 39 = -1 := by unfold idx at h1; omega
      refine ⟨?_, t, by unfold post at *; simp [hc, h2]⟩
      unfold idx at *
      simp only [Lib.indexByte]
      have hb : (c == 39) = false := by simpa using hc
      have hp : (pre (c :: l)).length = (pre l).length + 1 := by unfold pre; simp [hc]
      rw [hb, hp]
      simp [h1]

theorem idx_none {l : List UInt8} (h : 39 ∉ l) : idx l 39 < 0 := by
  rcases Int.lt_or_le (idx l 39) 0 with h' | h'
  · exact h'
  · obtain ⟨o, ho⟩ : ∃ o : Nat, Lib.indexByte l 39 = o := ⟨(idx l 39).toNat, by unfold idx at *; omega⟩
    exact absurd (List.mem_of_getElem? (Lib.indexByte_some ho).1) h

theorem index_at (q : ByteArray) (k : Nat) (h : idx q.data.toList 39 = k) (w : World) :
    Calls Try.prog 38 #[.string q, .int .u8 39] w fun e w' => e = .returned (.int .i64 (k : Int)) ∧ w = w' := by
  have := index_walk q 39 w
  rw [← h]
  exact this

/-- The bytes of a cut of a string. -/
theorem cut_bytes (s : ByteArray) (a mid b : List UInt8) (h : s.data.toList = a ++ (mid ++ b)) (i j : Nat) (hi : i = a.length) (hj : j = a.length + mid.length) :
    (s.extract i j).data.toList = mid := by
  subst hi hj
  rw [ByteArray.data_extract, Array.toList_extract, h]
  simp [List.extract_eq_take_drop]

theorem str_cells (q : ByteArray) (m : List UInt8) (h : q.data.toList = m) : Lib.strCells q = Lib.byteCells m := by
  subst h; rfl

theorem lit_at (q : ByteArray) (t : List UInt8) (h : q.data.toList = 39 :: t) (m : Nat) (hm : m = sll t 1 0) (hs : q.size ≤ 1048576) (w : World) :
    Calls Try.prog 39 #[.string q] w fun e w' => e = .returned (.int .i64 (m : Nat)) ∧ w = w' := by
  have := lit_walk q hs (by rw [size_of q _ h]; simp) w
  rw [h] at this
  rw [hm]
  exact this

def strSize : Value → Nat
  | .string b => b.size
  | _ => 0

set_option maxHeartbeats 2000000 in
set_option maxRecDepth 100000 in
theorem rep_walk (s : ByteArray) (hs : s.size ≤ 1048576) (w : World) :
    Calls Try.prog 31 #[.string s] w fun e w' => e = .returned (.string ⟨(rep s.size s.data.toList).toArray⟩) ∧ Below w.heap.size w w' := by
  obtain ⟨R, hR⟩ : ∃ R, R = rep s.size s.data.toList := ⟨_, rfl⟩
  rw [← hR]
  have HR := hidden hR
  clear hR
  go_enter Try.func31, Try.ntmps31
  go_wp2
  go_loopw [0] (fun sv wr => ∃ (q : ByteArray) (n : Nat) (acc : List UInt8), sv = .string q ∧ acc ++ rep n q.data.toList = R ∧ q.size ≤ n ∧ acc.length + q.size ≤ s.size ∧
      Lib.IsBuilderF 34 5 w.heap.size w.heap.size (Lib.byteCells acc) wr ∧ Below w.heap.size w wr) (fun sv _ => strSize sv)
  case atStart => exact ⟨s, s.size, [], rfl, by rw [HR.out]; rfl, Nat.le_refl _, by simp, Lib.IsBuilderF.of (Lib.fresh_isBuilder 34 5 w), (Below.refl _ w).alloc (Nat.le_refl _) _⟩
  case round =>
    obtain ⟨q, n, acc, rfl, hrep, hqn, hlen, hB, hbel⟩ := hrel
    have hbs := hbel.size
    have hbc : (Lib.byteCells acc).length = acc.length := Lib.byteCells_length _
    by_cases hm : 39 ∈ q.data.toList
    · obtain ⟨hk, t, ht⟩ := idx_pre _ hm
      have hql := pre_post q.data.toList
      rw [ht] at hql
      obtain ⟨P, hP⟩ : ∃ P, P = pre q.data.toList := ⟨_, rfl⟩
      rw [← hP] at hk hql
      obtain ⟨k, hkk⟩ : ∃ k, k = P.length := ⟨_, rfl⟩
      rw [← hkk] at hk
      have hqs : q.size = k + 1 + t.length := by rw [size_of q _ hql]; simp; omega
      cases n with
      | zero => omega
      | succ n =>
      rw [rep, ht] at hrep
      dsimp only at hrep
      rw [← hP] at hrep
      have hk1 : k < q.size := by omega
      have E1 : Hid ((q.extract k q.size).data.toList = 39 :: t) := hidden (cut_bytes q P (39 :: t) [] (by rw [List.append_nil]; exact hql) k q.size hkk (by simp; omega))
      obtain ⟨m, hmm⟩ : ∃ m, m = sll t 1 0 := ⟨_, rfl⟩
      rw [← hmm] at hrep
      have hes : (q.extract k q.size).size ≤ 1048576 := by rw [ByteArray.size_extract]; omega
      by_cases hm0 : m = 0
      · rw [if_pos hm0] at hrep
        subst hm0
        have E2 : Hid ((q.extract 0 (k + 1)).data.toList = P ++ [39]) := hidden (cut_bytes q [] (P ++ [39]) t (by rw [hql]; simp) 0 (k + 1) rfl (by simp; omega))
        have E3 : Hid ((q.extract (k + 1) q.size).data.toList = t) := hidden (cut_bytes q (P ++ [39]) t [] (by rw [hql]; simp) (k + 1) q.size (by simp; omega) (by simp; omega))
        have Z2 : (q.extract 0 (k + 1)).size ≤ 1048576 := by rw [ByteArray.size_extract]; omega
        have HREP := hidden hrep
        have HQS := hidden hqs
        have HKK := hidden hkk
        have HMM := hidden hmm
        clear hrep hql ht hqs hkk hmm hP hm
        go_wp2_with (first | (go_at_call 38; refine (index_at q k hk _).mono ?_; rintro e w' ⟨rfl, rfl⟩))
        refine (lit_at _ t E1.out 0 HMM.out hes _).mono ?_
        rintro e w' ⟨rfl, rfl⟩
        go_wp2_with fail
        refine (Try.Builder_WriteString_k w.heap.size w.heap.size _ _ _ hB (by rw [hbc]; omega) hbs).mono ?_
        rintro e w2 ⟨rfl, g1, g2, _⟩
        go_wp2
        go_roundw
        case rel =>
          have hkk := HKK.out
          have hqs := HQS.out
          have hts : (q.extract (k + 1) q.size).size = t.length := size_of _ _ E3.out
          refine ⟨_, n, acc ++ (P ++ [39]), rfl, by rw [E3.out, ← HREP.out]; simp, by omega, by simp; omega, ?_, hbel.trans g2⟩
          rw [Lib.byteCells_append, ← str_cells _ _ E2.out]
          exact Or.inr g1
        case measure =>
          have hqs := HQS.out
          have hts : (q.extract (k + 1) q.size).size = t.length := size_of _ _ E3.out
          simp only [strSize, hts]
          omega
      · rw [if_neg hm0] at hrep
        have hsm := sll_some t.length t 1 0 (Nat.le_refl _) (Nat.le_refl _) (by omega) (by rw [← hmm]; exact hm0)
        rw [← hmm] at hsm
        obtain ⟨hm2, hmt⟩ := hsm
        have E2 : Hid ((q.extract 0 k).data.toList = P) := hidden (cut_bytes q [] P (39 :: t) (by rw [List.nil_append]; exact hql) 0 k rfl (by simp; omega))
        have E3 : Hid ((q.extract (k + m) q.size).data.toList = t.drop (m - 1)) := hidden (cut_bytes q (P ++ 39 :: t.take (m - 1)) (t.drop (m - 1)) [] (by rw [hql]; simp) (k + m) q.size (by simp; omega) (by simp; omega))
        have Z2 : (q.extract 0 k).size ≤ 1048576 := by rw [ByteArray.size_extract]; omega
        have hmf : ((m : Int) == 0) = false := beq_eq_false_iff_ne.2 (by omega)
        have hkm : k + m ≤ q.size := by omega
        have HREP := hidden hrep
        have HQS := hidden hqs
        have HKK := hidden hkk
        have HMM := hidden hmm
        clear hrep hql ht hqs hkk hmm hP hm hm0
        go_wp2_with (first | (go_at_call 38; refine (index_at q k hk _).mono ?_; rintro e w' ⟨rfl, rfl⟩))
        refine (lit_at _ t E1.out m HMM.out hes _).mono ?_
        rintro e w' ⟨rfl, rfl⟩
        go_wp2_with fail
        refine (Try.Builder_WriteString_k w.heap.size w.heap.size _ _ _ hB (by rw [hbc]; omega) hbs).mono ?_
        rintro e w2 ⟨rfl, g1, g2, _⟩
        have hbs2 := Nat.le_trans hbs g2.size
        rw [str_cells _ _ E2.out] at g1
        have hl3 : (Lib.byteCells acc ++ Lib.byteCells P).length + 1 ≤ 140737488355328 := by
          have h1 := HKK.out
          rw [List.length_append, Lib.byteCells_length, Lib.byteCells_length]; omega
        go_wp2_with fail
        refine (Try.Builder_WriteByte_k w.heap.size w.heap.size _ 63 _ (Or.inr g1) hl3 hbs2).mono ?_
        rintro e w3 ⟨rfl, g3, g4, _⟩
        go_wp2
        go_roundw
        case rel =>
          have hkk := HKK.out
          have hqs := HQS.out
          have hts : (q.extract (k + m) q.size).size = (t.drop (m - 1)).length := size_of _ _ E3.out
          rw [List.length_drop] at hts
          refine ⟨_, n, acc ++ (P ++ [63]), rfl, by rw [E3.out, ← HREP.out]; simp, by omega, by simp; omega, ?_, (hbel.trans g2).trans g4⟩
          rw [Lib.byteCells_append, Lib.byteCells_append, ← List.append_assoc]
          exact Or.inr g3
        case measure =>
          have hqs := HQS.out
          have hts : (q.extract (k + m) q.size).size = (t.drop (m - 1)).length := size_of _ _ E3.out
          rw [List.length_drop] at hts
          simp only [strSize, hts]
          omega
    · have hneg := idx_none hm
      have HREP : Hid (acc ++ q.data.toList = R) := by unfold Hid; rw [← hrep, rep_free n _ hm]
      clear hrep hm
      go_wp2_with (first | (go_at_call 38; refine (index_walk q 39 _).mono ?_; rintro e w' ⟨rfl, rfl⟩))
      refine (Try.Builder_WriteString_k w.heap.size w.heap.size _ _ _ hB (by rw [hbc]; omega) hbs).mono ?_
      rintro e w2 ⟨rfl, g1, g2, _⟩
      have hbs2 := Nat.le_trans hbs g2.size
      rw [str_cells q _ rfl, ← Lib.byteCells_append] at g1
      go_wp2_with fail
      refine (Try.Builder_String_any_k w.heap.size w.heap.size (acc ++ q.data.toList) _ (Or.inr g1) hbs2).mono ?_
      rintro e w3 ⟨rfl, _, g4, _⟩
      go_wp2
      go_ret
      exact ⟨by rw [← HREP.out]; rfl, (hbel.trans g2).trans g4⟩

theorem zzrep_walk (s : ByteArray) (hs : s.size ≤ 1048576) (w : World) :
    Calls Try.prog 22 #[.string s] w fun e w' => e = .returned (.string ⟨(rep s.size s.data.toList).toArray⟩) ∧ Below w.heap.size w w' := by
  go_enter Try.func22, Try.ntmps22
  go_wp2_with (go_at_call 31; refine (rep_walk s hs _).mono ?_; rintro e w1 ⟨rfl, hb1⟩)
  go_ret
  exact ⟨rfl, hb1⟩
end Go.Proofs.Qxb6000745a
