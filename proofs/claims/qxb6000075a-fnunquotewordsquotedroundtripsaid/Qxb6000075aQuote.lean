/-
  THE WALK OF quoteWord (11).
-/
import Derived.Test.Qxb6000075aLeaves
import Derived.WalkSpells
import Derived.Lib.UnsafeStr
namespace Go.Proofs.Qxb6000075a
open Go.RowKit

theorem info5 : (Try.prog.info? 5).map (fun i => (i.zero, i.size, i.bytes)) = some (some (.int .u8 0), 1, 1) := by kernel_rfl

theorem convert_back {w : World} {base g n cap : Nat} {l : List UInt8} (h : w.ownsRow base 5 1 (.slice (some ⟨g, 0, none⟩) n cap) n (Lib.byteCells l)) :
    (convert 34 9 (.slice (some ⟨g, 0, none⟩) n cap)).run Try.prog w = .ok (.string ⟨l.toArray⟩) w := by
  have hn : n = l.length := by have := h.1; rw [Lib.byteCells_length] at this; omega
  subst hn
  refine run_convert_bytes_back w 34 9 5 _ cap l Try.underlying34 Try.underlying5 Try.underlying9 fun j hj => ?_
  exact h.cells rfl j _ (by simp [Lib.byteCells, List.getElem?_eq_getElem hj])

theorem byte_or {c : UInt8} (h : (c.toNat : Int) = 34 ∨ (c.toNat : Int) = 92) : c = 34 ∨ c = 92 := by
  rcases h with h | h
  · left; apply UInt8.toNat_inj.1; simpa using (by omega : c.toNat = 34)
  · right; apply UInt8.toNat_inj.1; simpa using (by omega : c.toNat = 92)

theorem byte_nor {c : UInt8} (h : ¬ ((c.toNat : Int) = 34 ∨ (c.toNat : Int) = 92)) : ¬ (c = 34 ∨ c = 92) := by
  rintro (e | e)
  · exact h (Or.inl (by rw [e]; rfl))
  · exact h (Or.inr (by rw [e]; rfl))

set_option maxHeartbeats 1000000 in
set_option maxRecDepth 100000 in
theorem quoteWord_walk (m : ByteArray) (hm : m.size ≤ 262144) (w : World) :
    Calls Try.prog 11 #[.string m] w fun e w' => e = .returned (.string ⟨(34 :: (esc m.data.toList ++ [34])).toArray⟩) ∧ Below w.heap.size w w' := by
  obtain ⟨i0, hi, hz0, hz1, hz2⟩ := info_parts info5
  go_enter Try.func11, Try.ntmps11
  go_wp2_with (first | (at_make; refine wpList_make_own _ rfl _ _ 34 rfl w.heap.size 5 i0 (.int .u8 0) 1 Try.underlying34 hi hz0 hz1 _ _ _ (2 * m.size + 2) rfl rfl (by omega) ?b2 ?b3 (Nat.le_refl _) ?_))
  case b2 => rw [hz2]; omega
  case b3 => unfold maxLen; omega
  intro w0 hown0 hgrow0
  go_wp2_with (at_builtin; refine wpList_append_fits _ rfl (.tmp 10) (.tmp 11) 34 rfl w.heap.size 5 i0 1 Try.underlying34 hi hz1 w.heap.size 0 (2 * m.size + 2) _ rfl (hown0.alloc _) ⟨w0.heap.size, 0, none⟩ 1 1 [.int .u8 34] rfl rfl (cell_one_new _ _ _) (by intro u hu; simp at hu; subst hu; rfl) (by omega) ?_; intro w1 hown1 hgrow1)
  have b1 : Below w.heap.size w w1 := (((Below.refl _ w).grown hgrow0 (Nat.le_refl _) (fun k h => by cases h)).alloc hgrow0.size _).grown hgrow1 (by have := hgrow0.size; simp; omega) (fun k hk => by cases hk; exact Nat.le_refl _)
  clear hown0 hgrow0 hgrow1
  go_loopw [3, 4] (fun out i wr => ∃ (k n : Nat), k ≤ m.size ∧ n = 1 + (esc (m.data.toList.take k)).length ∧ i = .int .i64 k ∧ out = .slice (some ⟨w.heap.size, 0, none⟩) n (2 * m.size + 2) ∧
      wr.ownsRow w.heap.size 5 1 (.slice (some ⟨w.heap.size, 0, none⟩) n (2 * m.size + 2)) n (Lib.byteCells (34 :: esc (m.data.toList.take k))) ∧ Below w.heap.size w wr) (fun _ i _ => m.size - (intOf i).toNat)
  case atStart => exact ⟨0, 1, Nat.zero_le _, rfl, rfl, rfl, hown1, b1⟩
  case round =>
    obtain ⟨k, n, hk, hn, rfl, rfl, hown, hbel⟩ := hrel
    have HN : Hid (n = 1 + (esc (m.data.toList.take k)).length) := hn
    have hbs := hbel.size
    by_cases hlt : k < m.size
    · have hlt' : k < m.data.toList.length := by simpa using hlt
      have hle : (esc (m.data.toList.take k)).length ≤ 2 * k := by
        have := (esc_len (m.data.toList.take k)).2
        simp only [List.length_take] at this
        omega
      have HE : Hid (esc (m.data.toList.take (k + 1)) = esc (m.data.toList.take k) ++ esc1 m[k]) := esc_take_succ m.data.toList k hlt'
      have hnb : n ≤ 2 * k + 1 := by omega
      clear hn hle
      by_cases hsp : (m[k].toNat : Int) = 34
      · have HS : Hid (esc1 m[k] = [92, m[k]]) := esc1_pos _ (byte_or (Or.inl hsp))
        have HV : Hid (m[k].toNat = 34) := by unfold Hid; omega
        go_wp2_with (first
          | (at_builtin; refine wpList_append_fits _ rfl (.tmp 29) (.tmp 30) 34 rfl w.heap.size 5 i0 1 Try.underlying34 hi hz1 w.heap.size n (2 * m.size + 2) _ rfl (hown.alloc _) ⟨wr.heap.size, 0, none⟩ 1 1 [_] rfl rfl (cell_one_new _ _ _) (by intro u hu; simp at hu; subst hu; rfl) (by omega) ?_; intro w2 hown2 hgrow2)
          | (at_builtin; refine wpList_append_fits _ rfl (.tmp 32) (.tmp 36) 34 rfl w.heap.size 5 i0 1 Try.underlying34 hi hz1 w.heap.size (n + 1) (2 * m.size + 2) _ rfl (hown2.alloc _) ⟨w2.heap.size, 0, none⟩ 1 1 [_] rfl rfl (cell_one_new _ _ _) (by intro u hu; simp at hu; subst hu; rfl) (by omega) ?_; intro w3 hown3 hgrow3))
        go_roundw
        case rel =>
          refine ⟨k + 1, n + 1 + 1, by omega, by rw [HE.out, HS.out]; have := HN.out; simp; omega, by go_num, rfl, ?_, (((hbel.alloc hbs _).grown hgrow2 (by simp; omega) (fun k hk => by cases hk; exact Nat.le_refl _)).alloc (by have := hgrow2.size; simp at this; omega) _).grown hgrow3 (by have := hgrow2.size; simp at this ⊢; omega) (fun k hk => by cases hk; exact Nat.le_refl _)⟩
          rw [HE.out, HS.out]
          simpa [Lib.byteCells, HV.out] using hown3
        case measure => simp [intOf]; omega
      · by_cases hsq : (m[k].toNat : Int) = 92
        · have HS : Hid (esc1 m[k] = [92, m[k]]) := esc1_pos _ (byte_or (Or.inr hsq))
          have HV : Hid (m[k].toNat = 92) := by unfold Hid; omega
          go_wp2_with (first
            | (at_builtin; refine wpList_append_fits _ rfl (.tmp 29) (.tmp 30) 34 rfl w.heap.size 5 i0 1 Try.underlying34 hi hz1 w.heap.size n (2 * m.size + 2) _ rfl (hown.alloc _) ⟨wr.heap.size, 0, none⟩ 1 1 [_] rfl rfl (cell_one_new _ _ _) (by intro u hu; simp at hu; subst hu; rfl) (by omega) ?_; intro w2 hown2 hgrow2)
            | (at_builtin; refine wpList_append_fits _ rfl (.tmp 32) (.tmp 36) 34 rfl w.heap.size 5 i0 1 Try.underlying34 hi hz1 w.heap.size (n + 1) (2 * m.size + 2) _ rfl (hown2.alloc _) ⟨w2.heap.size, 0, none⟩ 1 1 [_] rfl rfl (cell_one_new _ _ _) (by intro u hu; simp at hu; subst hu; rfl) (by omega) ?_; intro w3 hown3 hgrow3))
          go_roundw
          case rel =>
            refine ⟨k + 1, n + 1 + 1, by omega, by rw [HE.out, HS.out]; have := HN.out; simp; omega, by go_num, rfl, ?_, (((hbel.alloc hbs _).grown hgrow2 (by simp; omega) (fun k hk => by cases hk; exact Nat.le_refl _)).alloc (by have := hgrow2.size; simp at this; omega) _).grown hgrow3 (by have := hgrow2.size; simp at this ⊢; omega) (fun k hk => by cases hk; exact Nat.le_refl _)⟩
            rw [HE.out, HS.out]
            simpa [Lib.byteCells, HV.out] using hown3
          case measure => simp [intOf]; omega
        · have HS : Hid (esc1 m[k] = [m[k]]) := esc1_neg _ (byte_nor (fun h => h.elim hsp hsq))
          have h1 : ((m[k].toNat : Int) == 34) = false := beq_eq_false_iff_ne.2 hsp
          have h2 : ((m[k].toNat : Int) == 92) = false := beq_eq_false_iff_ne.2 hsq
          go_wp2_with (first
            | (at_builtin; refine wpList_append_fits _ rfl (.tmp 32) (.tmp 36) 34 rfl w.heap.size 5 i0 1 Try.underlying34 hi hz1 w.heap.size n (2 * m.size + 2) _ rfl (hown.alloc _) ⟨wr.heap.size, 0, none⟩ 1 1 [_] rfl rfl (cell_one_new _ _ _) (by intro u hu; simp at hu; subst hu; rfl) (by omega) ?_; intro w3 hown3 hgrow3))
          go_roundw
          case rel =>
            refine ⟨k + 1, n + 1, by omega, by rw [HE.out, HS.out]; have := HN.out; simp; omega, by go_num, rfl, ?_, (hbel.alloc hbs _).grown hgrow3 (by simp; omega) (fun k hk => by cases hk; exact Nat.le_refl _)⟩
            rw [HE.out, HS.out]
            simpa [Lib.byteCells] using hown3
          case measure => simp [intOf]; omega
    · have hcap : n + 1 ≤ 2 * m.size + 2 := by
        have := (esc_len (m.data.toList.take k)).2
        simp only [List.length_take] at this
        omega
      have HT : Hid (m.data.toList.take k = m.data.toList) := List.take_of_length_le (by simp; omega)
      clear hn
      go_wp2_with (first
            | (at_builtin; refine wpList_append_fits _ rfl (.tmp 38) (.tmp 39) 34 rfl w.heap.size 5 i0 1 Try.underlying34 hi hz1 w.heap.size n (2 * m.size + 2) _ rfl (hown.alloc _) ⟨wr.heap.size, 0, none⟩ 1 1 [_] rfl rfl (cell_one_new _ _ _) (by intro u hu; simp at hu; subst hu; rfl) hcap ?_; intro w3 hown3 hgrow3; have hcv := convert_back (l := (34 :: esc (m.data.toList.take k)) ++ [34]) (by rw [Lib.byteCells_append]; exact hown3)))
      go_ret
      refine ⟨?_, (hbel.alloc hbs _).grown hgrow3 (by simp; omega) (fun k hk => by cases hk; exact Nat.le_refl _)⟩
      simp [HT.out]
end Go.Proofs.Qxb6000075a
