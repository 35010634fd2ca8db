/-
  THE WALK OF zzQuoteSQL (21).
-/
import Derived.Test.Qxb6000745aRep
namespace Go.Proofs.Qxb6000745a
open Go.RowKit

theorem infoB : (Try.prog.info? 5).map (fun i => (i.zero, i.size, i.bytes)) = some (some (.int .u8 0), 1, 1) := by kernel_rfl

theorem convert_back {w : World} {base g n cap : Nat} {l : List UInt8} (h : w.ownsRow base 5 1 (.slice (some ⟨g, 0, none⟩) n cap) n (Lib.byteCells l)) :
    (convert 27 9 (.slice (some ⟨g, 0, none⟩) n cap)).run Try.prog w = .ok (.string ⟨l.toArray⟩) w := by
  have hn : n = l.length := by have := h.1; rw [Lib.byteCells_length] at this; omega
  subst hn
  refine run_convert_bytes_back w 27 9 5 _ cap l Try.underlying27 Try.underlying5 Try.underlying9 fun j hj => ?_
  exact h.cells rfl j _ (by simp [Lib.byteCells, List.getElem?_eq_getElem hj])

theorem dbl_snoc (l : List UInt8) (k : Nat) (h : k < l.length) : dbl (l.take (k + 1)) = dbl (l.take k) ++ (if l[k] = 39 then [39, 39] else [l[k]]) := by
  rw [List.take_succ_eq_append_getElem h, dbl_append]; simp [dbl]

set_option maxHeartbeats 1000000 in
set_option maxRecDepth 100000 in
theorem sql_walk (m : ByteArray) (hm : m.size ≤ 65536) (w : World) :
    Calls Try.prog 21 #[.string m] w fun e w' => e = .returned (.string ⟨(39 :: (dbl m.data.toList ++ [39])).toArray⟩) ∧ Below w.heap.size w w' := by
  obtain ⟨i0, hi, hz0, hz1, hz2⟩ := info_parts infoB
  go_enter Try.func21, Try.ntmps21
  go_wp2_with (first | (at_make; refine wpList_make_own _ rfl _ _ 27 rfl w.heap.size 5 i0 (.int .u8 0) 1 Try.underlying27 hi hz0 hz1 _ _ _ (2 * m.size + 2) rfl rfl (by omega) ?b2 ?b3 (Nat.le_refl _) ?_))
  case b2 => rw [hz2]; omega
  case b3 => unfold maxLen; omega
  intro w0 hown0 hgrow0
  go_wp2_with (at_builtin; refine wpList_append_fits _ rfl (.tmp 10) (.tmp 11) 27 rfl w.heap.size 5 i0 1 Try.underlying27 hi hz1 w.heap.size 0 (2 * m.size + 2) _ rfl (hown0.alloc _) ⟨w0.heap.size, 0, none⟩ 1 1 [.int .u8 39] rfl rfl (cell_one_new _ _ _) (by intro u hu; simp at hu; subst hu; rfl) (by omega) ?_; intro w1 hown1 hgrow1)
  have b1 : Below w.heap.size w w1 := (((Below.refl _ w).grown hgrow0 (Nat.le_refl _) (fun k h => by cases h)).alloc hgrow0.size _).grown hgrow1 (by have := hgrow0.size; simp; omega) (fun k hk => by cases hk; exact Nat.le_refl _)
  clear hown0 hgrow0 hgrow1
  go_loopw [3, 4] (fun out i wr => ∃ (k n : Nat), k ≤ m.size ∧ n = 1 + (dbl (m.data.toList.take k)).length ∧ i = .int .i64 k ∧ out = .slice (some ⟨w.heap.size, 0, none⟩) n (2 * m.size + 2) ∧
      wr.ownsRow w.heap.size 5 1 (.slice (some ⟨w.heap.size, 0, none⟩) n (2 * m.size + 2)) n (Lib.byteCells (39 :: dbl (m.data.toList.take k))) ∧ Below w.heap.size w wr) (fun _ i _ => m.size - (intOf i).toNat)
  case atStart => exact ⟨0, 1, Nat.zero_le _, rfl, rfl, rfl, hown1, b1⟩
  case round =>
    obtain ⟨k, n, hk, hn, rfl, rfl, hown, hbel⟩ := hrel
    have HN := hidden hn
    have hbs := hbel.size
    by_cases hlt : k < m.size
    · have hlt' : k < m.data.toList.length := by simpa using hlt
      have hle : (dbl (m.data.toList.take k)).length ≤ 2 * k := by
        have := dbl_len (m.data.toList.take k)
        simp only [List.length_take] at this
        omega
      have HE : Hid (dbl (m.data.toList.take (k + 1)) = dbl (m.data.toList.take k) ++ (if m[k] = 39 then [39, 39] else [m[k]])) := dbl_snoc m.data.toList k hlt'
      have hnb : n ≤ 2 * k + 1 := by omega
      clear hn hle
      by_cases hsp : m[k] = 39
      · have hn39 : m[k].toNat = 39 := by rw [hsp]; rfl
        go_wp2_with (first
          | (at_builtin; refine wpList_append_fits _ rfl (.tmp 23) (.tmp 24) 27 rfl w.heap.size 5 i0 1 Try.underlying27 hi hz1 w.heap.size n (2 * m.size + 2) _ rfl (hown.alloc _) ⟨wr.heap.size, 0, none⟩ 1 1 [_] rfl rfl (cell_one_new _ _ _) (by intro u hu; simp at hu; subst hu; rfl) (by omega) ?_; intro w2 hown2 hgrow2)
          | (at_builtin; refine wpList_append_fits _ rfl (.tmp 26) (.tmp 30) 27 rfl w.heap.size 5 i0 1 Try.underlying27 hi hz1 w.heap.size (n + 1) (2 * m.size + 2) _ rfl (hown2.alloc _) ⟨w2.heap.size, 0, none⟩ 1 1 [_] rfl rfl (cell_one_new _ _ _) (by intro u hu; simp at hu; subst hu; rfl) (by omega) ?_; intro w3 hown3 hgrow3))
        go_roundw
        case rel =>
          refine ⟨k + 1, n + 1 + 1, by omega, by rw [HE.out, if_pos hsp]; have := HN.out; simp; omega, by go_num, rfl, ?_, (((hbel.alloc hbs _).grown hgrow2 (by simp; omega) (fun k hk => by cases hk; exact Nat.le_refl _)).alloc (by have := hgrow2.size; simp at this; omega) _).grown hgrow3 (by have := hgrow2.size; simp at this ⊢; omega) (fun k hk => by cases hk; exact Nat.le_refl _)⟩
          rw [HE.out, if_pos hsp]
          simpa [Lib.byteCells] using hown3
        case measure => simp [intOf]; omega
      · have hn39 := ne39 hsp
        go_wp2_with (first
          | (at_builtin; refine wpList_append_fits _ rfl (.tmp 26) (.tmp 30) 27 rfl w.heap.size 5 i0 1 Try.underlying27 hi hz1 w.heap.size n (2 * m.size + 2) _ rfl (hown.alloc _) ⟨wr.heap.size, 0, none⟩ 1 1 [_] rfl rfl (cell_one_new _ _ _) (by intro u hu; simp at hu; subst hu; rfl) (by omega) ?_; intro w3 hown3 hgrow3))
        go_roundw
        case rel =>
          refine ⟨k + 1, n + 1, by omega, by rw [HE.out, if_neg hsp]; have := HN.out; simp; omega, by go_num, rfl, ?_, (hbel.alloc hbs _).grown hgrow3 (by simp; omega) (fun k hk => by cases hk; exact Nat.le_refl _)⟩
          rw [HE.out, if_neg hsp]
          simpa [Lib.byteCells] using hown3
        case measure => simp [intOf]; omega
    · have hcap : n + 1 ≤ 2 * m.size + 2 := by
        have := dbl_len (m.data.toList.take k)
        simp only [List.length_take] at this
        omega
      have HT : Hid (m.data.toList.take k = m.data.toList) := List.take_of_length_le (by simp; omega)
      clear hn
      go_wp2_with (first
            | (at_builtin; refine wpList_append_fits _ rfl (.tmp 32) (.tmp 33) 27 rfl w.heap.size 5 i0 1 Try.underlying27 hi hz1 w.heap.size n (2 * m.size + 2) _ rfl (hown.alloc _) ⟨wr.heap.size, 0, none⟩ 1 1 [_] rfl rfl (cell_one_new _ _ _) (by intro u hu; simp at hu; subst hu; rfl) hcap ?_; intro w3 hown3 hgrow3; have hcv := convert_back (l := (39 :: dbl (m.data.toList.take k)) ++ [39]) (by rw [Lib.byteCells_append]; exact hown3)))
      go_ret
      refine ⟨?_, (hbel.alloc hbs _).grown hgrow3 (by simp; omega) (fun k hk => by cases hk; exact Nat.le_refl _)⟩
      simp [HT.out]
end Go.Proofs.Qxb6000745a
