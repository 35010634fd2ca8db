/-
  THE WALK OF zzCollapseModel (14).
-/
import Derived.Test.Qxb6000745aLeaves
namespace Go.Proofs.Qxb6000745a
open Go.RowKit

theorem info5 : (Try.prog.info? 5).map (fun i => (i.zero, i.size, i.bytes)) = some (some (.int .u8 0), 1, 1) := by kernel_rfl

theorem ownsRow_shape {w : World} {base : Nat} {e : TypeId} {size : Nat} {v : Value} {n : Nat} {xs : List Value} (h : w.ownsRow base e size v n xs) : ∃ a c, v = .slice a n c := by
  rcases h.2 with ⟨rfl, rfl⟩ | ⟨g, cap, cur, rfl, _⟩
  · exact ⟨_, _, rfl⟩
  · exact ⟨_, _, rfl⟩

theorem convert_own {w : World} {base : Nat} {v : Value} {n : Nat} {l : List UInt8} (h : w.ownsRow base 5 1 v n (Lib.byteCells l)) (h0 : l ≠ []) :
    (convert 27 9 v).run Try.prog w = .ok (.string ⟨l.toArray⟩) w := by
  have hn : n = l.length := by have := h.1; rw [Lib.byteCells_length] at this; omega
  subst hn
  rcases h.2 with ⟨_, hz⟩ | ⟨g, cap, cur, hv, _⟩
  · exact absurd (List.length_eq_zero_iff.1 hz) h0
  · rw [hv] at h ⊢
    refine run_convert_bytes_back w 27 9 5 _ cap l Try.underlying27 Try.underlying5 Try.underlying9 fun j hj => ?_
    exact h.cells rfl j _ (by simp [Lib.byteCells, List.getElem?_eq_getElem hj])

theorem lead_size (s : ByteArray) (h : 0 < s.size) : lead s.data.toList = if wh s[0] then [32] else [] := by
  have := drop_at s 0 h
  simp only [List.drop_zero] at this
  rw [this]; rfl

set_option maxHeartbeats 2000000 in
set_option maxRecDepth 100000 in
theorem model_empty (s : ByteArray) (hs : s.size = 0) (w : World) :
    Calls Try.prog 14 #[.string s] w fun e w' => e = .returned (.string ⟨(col false s.data.toList).toArray⟩) ∧ Below w.heap.size w w' := by
  have hl : s.data.toList = [] := List.length_eq_zero_iff.1 hs
  rw [hl]
  have h0 : ((s.size : Int) == 0) = true := by rw [hs]; rfl
  clear hs hl
  go_enter Try.func14, Try.ntmps14
  go_wp2
  go_ret
  exact ⟨rfl, Below.refl _ _⟩

theorem white_snoc {s : ByteArray} {k j : Nat} (h : whiteOn s.data.toList k j) (hj : j < s.size) (hp : wh s[j] = true) : whiteOn s.data.toList k (j + 1) := by
  intro t ht h1 h2
  by_cases e : t = j
  · subst e; exact hp
  · exact h t ht h1 (by omega)

theorem dark_snoc {s : ByteArray} {k j : Nat} (h : darkOn s.data.toList k j) (hj : j < s.size) (hp : wh s[j] = false) : darkOn s.data.toList k (j + 1) := by
  intro t ht h1 h2
  by_cases e : t = j
  · subst e; exact hp
  · exact h t ht h1 (by omega)

theorem seg_cut (s : ByteArray) (i j : Nat) : (s.extract i j).data.toList = seg s.data.toList i j := by
  rw [ByteArray.data_extract, Array.toList_extract]
  simp [seg, List.extract_eq_take_drop]

theorem own_below {w w0 w1 : World} {row : Option Nat} {v : Value} {n : Nat} {xs : List Value} (hb : Below w.heap.size w w0) (hown : w0.ownsRow w.heap.size 5 1 v n xs) (hg : w0.grownBy w1 row) (hr : row = v.ownBlock) : Below w.heap.size w w1 :=
  hb.grown hg hb.size (fun k hk => (hown.lt k (by rw [← hr, hk])).1)

set_option maxHeartbeats 4000000 in
set_option maxRecDepth 100000 in
theorem model_walk (s : ByteArray) (h0 : 0 < s.size) (hs : s.size ≤ 65536) (w : World) :
    Calls Try.prog 14 #[.string s] w fun e w' => e = .returned (.string ⟨(col false s.data.toList).toArray⟩) ∧ Below w.heap.size w w' := by
  obtain ⟨i0, hi, hz0, hz1, hz2⟩ := info_parts info5
  have hne0 : ((s.size : Int) == 0) = false := beq_eq_false_iff_ne.2 (by omega)
  have HL := hidden (lead_size s h0)
  go_enter Try.func14, Try.ntmps14
  go_wp2_with (first | (at_make; refine wpList_make_own _ rfl _ _ 27 rfl w.heap.size 5 i0 (.int .u8 0) 1 Try.underlying27 hi hz0 hz1 _ _ _ (s.size + 1) rfl rfl (by omega) ?b2 ?b3 (Nat.le_refl _) ?_))
  case b2 => rw [hz2]; omega
  case b3 => unfold maxLen; omega
  intro w0 hown0 hgrow0
  have hb0 : Below w.heap.size w w0 := (Below.refl _ w).grown hgrow0 (Nat.le_refl _) (fun k h => by cases h)
  clear hgrow0
  have hsz0 := hb0.size
  by_cases hw0 : wh s[0] = true
  · go_wp2_with (first | (go_at_call 17; refine (white_walk s[0] _).mono ?_; rintro e w' ⟨rfl, rfl⟩) | (at_builtin; refine wpList_append_own _ rfl (.tmp 17) (.tmp 18) 27 rfl w.heap.size 5 i0 (.int .u8 0) 1 1 Try.underlying27 hi hz0 hz1 hz2 rfl (by decide) _ _ _ rfl (hown0.alloc _) ⟨w0.heap.size, 0, none⟩ 1 1 [_] rfl rfl (cell_one_new _ _ _) ?c2 ?c3 ?c4 ?c5 ?_))
    case c2 => intro u hu; simp at hu; subst hu; rfl
    case c3 => unfold maxLen; omega
    case c4 => omega
    case c5 => simp; omega
    intro v1 w1 hown1 hgrow1 _
    have hb1 : Below w.heap.size w w1 := (hb0.alloc hsz0 _).grown hgrow1 (by simp; omega) (fun k hk => by cases hk; exact Nat.le_refl _)
    have HLL : Hid (lead s.data.toList = [32]) := by unfold Hid; rw [HL.out, hw0]; rfl
    clear hgrow1
    go_wp2
    go_loopw [3, 4, 5] (fun out nw i wr => ∃ (v : Value) (acc : List UInt8) (n k : Nat), out = v ∧ nw = .int .i64 n ∧ i = .int .i64 k ∧ Ok s.data.toList acc n k ∧ wr.ownsRow w.heap.size 5 1 v acc.length (Lib.byteCells acc) ∧ Below w.heap.size w wr) (fun _ _ i _ => s.size - (intOf i).toNat)
    case atStart => exact ⟨_, lead s.data.toList, 0, 0, rfl, rfl, rfl, Ok.start _, by rw [HLL.out]; exact hown1, hb1⟩
    case round =>
      clear hown1 hb1 hown0 hb0 hsz0 hw0 HLL HL
      obtain ⟨v, acc, n, k, rfl, rfl, rfl, hok, hown, hbel⟩ := hrel
      have hbs := hbel.size
      have hle := hok.le
      have hal := hok.len
      have hsl : s.data.toList.length = s.size := rfl
      have hn1 : n ≤ s.size := by omega
      have hk1 : k ≤ s.size := by omega
      have hal1 : acc.length ≤ s.size := by omega
      clear hle hal
      by_cases hlt : k < s.size
      · go_wp2
        go_loop [5] (fun t => ∃ j : Nat, k ≤ j ∧ j ≤ s.size ∧ t = .int .i64 j ∧ whiteOn s.data.toList k j) (fun t => s.size - (intOf t).toNat)
        case atStart => exact ⟨k, Nat.le_refl _, hk1, rfl, fun t _ h1 h2 => absurd h2 (by omega)⟩
        case round =>
          obtain ⟨j, hkj, hj, rfl, hw⟩ := hrel
          have HW := hidden hw
          clear hw
          by_cases hlt2 : j < s.size
          · by_cases hp : wh s[j] = true
            · go_wp2_with (go_at_call 17; refine (white_walk s[j] _).mono ?_; rintro e w' ⟨rfl, rfl⟩)
              go_round
              case rel => exact ⟨j + 1, by omega, by omega, by go_num, white_snoc HW.out hlt2 hp⟩
              case measure => simp [intOf]; omega
            · have hp' : wh s[j] = false := by simpa using hp
              have hjn : ((j : Int) == (s.size : Int)) = false := beq_eq_false_iff_ne.2 (by omega)
              go_wp2_with (go_at_call 17; refine (white_walk s[j] _).mono ?_; rintro e w' ⟨rfl, rfl⟩)
              go_loop [5] (fun t => ∃ m : Nat, j ≤ m ∧ m ≤ s.size ∧ t = .int .i64 m ∧ darkOn s.data.toList j m) (fun t => s.size - (intOf t).toNat)
              case atStart => exact ⟨j, Nat.le_refl _, hj, rfl, fun t _ h1 h2 => absurd h2 (by omega)⟩
              case round =>
                obtain ⟨m, hjm, hm, rfl, hd⟩ := hrel
                have HD := hidden hd
                clear hd
                by_cases hlt3 : m < s.size
                · by_cases hq : wh s[m] = true
                  · have hjm2 : j < m := by
                      rcases Nat.lt_or_ge j m with h | h
                      · exact h
                      · have e : m = j := by omega
                        subst e; rw [hq] at hp'; cases hp'
                    have HE := hok.step hkj hjm2 hm (by simpa using hlt) HW.out HD.out (fun _ => hq)
                    have hql : (s.extract j m).size ≤ s.size := by rw [ByteArray.size_extract]; omega
                    have HSC : Hid (Lib.strCells (s.extract j m) = Lib.byteCells (seg s.data.toList j m)) := by
                      unfold Hid; rw [← seg_cut s j m]; rfl
                    have HSZ : Hid ((s.extract j m).size = (seg s.data.toList j m).length) := by
                      unfold Hid; rw [← seg_cut s j m]; rfl
                    clear hok hsl HW HD
                    by_cases hn0 : 0 < n
                    · go_wp2_with (first | (go_at_call 17; refine (white_walk s[m] _).mono ?_; rintro e w' ⟨rfl, rfl⟩) | (at_builtin; refine wpList_append_own _ rfl (.tmp 56) (.tmp 57) 27 rfl w.heap.size 5 i0 (.int .u8 0) 1 1 Try.underlying27 hi hz0 hz1 hz2 rfl (by decide) _ _ _ rfl (hown.alloc _) ⟨wr.heap.size, 0, none⟩ 1 1 [_] rfl rfl (cell_one_new _ _ _) (by intro u hu; simp at hu; subst hu; rfl) (by unfold maxLen; omega) (by omega) (by simp; omega) ?_; intro v3 w3 hown3 hgrow3 _; have hb3 := own_below (hbel.alloc hbs _) (hown.alloc _) hgrow3 rfl; have hbs3 := hb3.size) | (at_builtin; refine Lib.wpList_append_own_string _ rfl (.tmp 59) (.tmp 63) 27 9 rfl w.heap.size 5 i0 Try.underlying27 Try.underlying9 hi hz0 hz1 hz2 _ _ _ rfl hown3 _ rfl (by unfold maxLen; omega) (by omega) hbs3 ?_; intro v4 w4 hown4 hgrow4 _))
                      go_roundw
                      case rel =>
                        rw [if_pos hn0] at HE
                        refine ⟨_, _, n + 1, m, rfl, by go_num, rfl, HE, ?_, own_below hb3 hown3 hgrow4 rfl⟩
                        rw [HSC.out, HSZ.out] at hown4
                        simpa [Lib.byteCells_append, Lib.byteCells, Nat.add_assoc, Nat.add_comm 1 (seg s.data.toList j m).length] using hown4
                      case measure => simp [intOf]; omega
                    · go_wp2_with (first | (go_at_call 17; refine (white_walk s[m] _).mono ?_; rintro e w' ⟨rfl, rfl⟩) | (at_builtin; refine Lib.wpList_append_own_string _ rfl (.tmp 59) (.tmp 63) 27 9 rfl w.heap.size 5 i0 Try.underlying27 Try.underlying9 hi hz0 hz1 hz2 _ _ _ rfl hown _ rfl (by unfold maxLen; omega) (by omega) hbs ?_; intro v4 w4 hown4 hgrow4 _))
                      go_roundw
                      case rel =>
                        rw [if_neg hn0] at HE
                        refine ⟨_, _, n + 1, m, rfl, by go_num, rfl, HE, ?_, own_below hbel hown hgrow4 rfl⟩
                        rw [HSC.out, HSZ.out] at hown4
                        simpa [Lib.byteCells_append, Lib.byteCells, Nat.add_assoc] using hown4
                      case measure => simp [intOf]; omega
                  · have hq' : wh s[m] = false := by simpa using hq
                    go_wp2_with (go_at_call 17; refine (white_walk s[m] _).mono ?_; rintro e w' ⟨rfl, rfl⟩)
                    go_round
                    case rel => exact ⟨m + 1, by omega, by omega, by go_num, dark_snoc HD.out hlt3 hq'⟩
                    case measure => simp [intOf]; omega
                · have hjm2 : j < m := by omega
                  have HE := hok.step hkj hjm2 hm (by simpa using hlt) HW.out HD.out (fun h => absurd h (by simp; omega))
                  have hql : (s.extract j m).size ≤ s.size := by rw [ByteArray.size_extract]; omega
                  have HSC : Hid (Lib.strCells (s.extract j m) = Lib.byteCells (seg s.data.toList j m)) := by
                    unfold Hid; rw [← seg_cut s j m]; rfl
                  have HSZ : Hid ((s.extract j m).size = (seg s.data.toList j m).length) := by
                    unfold Hid; rw [← seg_cut s j m]; rfl
                  clear hok hsl HW HD
                  by_cases hn0 : 0 < n
                  · go_wp2_with (first | (go_at_call 17; refine (white_walk s[m] _).mono ?_; rintro e w' ⟨rfl, rfl⟩) | (at_builtin; refine wpList_append_own _ rfl (.tmp 56) (.tmp 57) 27 rfl w.heap.size 5 i0 (.int .u8 0) 1 1 Try.underlying27 hi hz0 hz1 hz2 rfl (by decide) _ _ _ rfl (hown.alloc _) ⟨wr.heap.size, 0, none⟩ 1 1 [_] rfl rfl (cell_one_new _ _ _) (by intro u hu; simp at hu; subst hu; rfl) (by unfold maxLen; omega) (by omega) (by simp; omega) ?_; intro v3 w3 hown3 hgrow3 _; have hb3 := own_below (hbel.alloc hbs _) (hown.alloc _) hgrow3 rfl; have hbs3 := hb3.size) | (at_builtin; refine Lib.wpList_append_own_string _ rfl (.tmp 59) (.tmp 63) 27 9 rfl w.heap.size 5 i0 Try.underlying27 Try.underlying9 hi hz0 hz1 hz2 _ _ _ rfl hown3 _ rfl (by unfold maxLen; omega) (by omega) hbs3 ?_; intro v4 w4 hown4 hgrow4 _))
                    go_roundw
                    case rel =>
                      rw [if_pos hn0] at HE
                      refine ⟨_, _, n + 1, m, rfl, by go_num, rfl, HE, ?_, own_below hb3 hown3 hgrow4 rfl⟩
                      rw [HSC.out, HSZ.out] at hown4
                      simpa [Lib.byteCells_append, Lib.byteCells, Nat.add_assoc, Nat.add_comm 1 (seg s.data.toList j m).length] using hown4
                    case measure => simp [intOf]; omega
                  · go_wp2_with (first | (go_at_call 17; refine (white_walk s[m] _).mono ?_; rintro e w' ⟨rfl, rfl⟩) | (at_builtin; refine Lib.wpList_append_own_string _ rfl (.tmp 59) (.tmp 63) 27 9 rfl w.heap.size 5 i0 Try.underlying27 Try.underlying9 hi hz0 hz1 hz2 _ _ _ rfl hown _ rfl (by unfold maxLen; omega) (by omega) hbs ?_; intro v4 w4 hown4 hgrow4 _))
                    go_roundw
                    case rel =>
                      rw [if_neg hn0] at HE
                      refine ⟨_, _, n + 1, m, rfl, by go_num, rfl, HE, ?_, own_below hbel hown hgrow4 rfl⟩
                      rw [HSC.out, HSZ.out] at hown4
                      simpa [Lib.byteCells_append, Lib.byteCells, Nat.add_assoc] using hown4
                    case measure => simp [intOf]; omega
          · have ej : j = s.size := by omega
            subst ej
            have hjn : ((s.size : Int) == (s.size : Int)) = true := beq_iff_eq.2 rfl
            have HWF : Hid (whiteOn s.data.toList k s.data.toList.length) := HW.out
            have HF := hidden (hok.fin h0 HWF.out)
            have HCN : Hid (col false s.data.toList ≠ []) := hidden (fun e => by have := (col_nil _).1 e; rw [List.length_eq_zero_iff.2 this] at hsl; omega)
            clear hsl hok
            have hlast : s.size - 1 < s.size := by omega
            have HLW : Hid (wh (s.data.toList[s.data.toList.length - 1]'(by simpa using hlast)) = wh s[s.size - 1]) := hidden rfl
            by_cases hn0 : 0 < n
            · by_cases hpl : wh s[s.size - 1] = true
              · have HFA : Hid (acc ++ [32] = col false s.data.toList) := by
                  unfold Hid; rw [← HF.out, if_pos ⟨hn0, by rw [HLW.out]; exact hpl⟩]
                clear HF HCN HLW
                go_wp2_with (first | (go_at_call 17; refine (white_walk s[s.size - 1] _).mono ?_; rintro e w' ⟨rfl, rfl⟩) | (at_builtin; refine wpList_append_own _ rfl (.tmp 77) (.tmp 78) 27 rfl w.heap.size 5 i0 (.int .u8 0) 1 1 Try.underlying27 hi hz0 hz1 hz2 rfl (by decide) _ _ _ rfl (hown.alloc _) ⟨wr.heap.size, 0, none⟩ 1 1 [_] rfl rfl (cell_one_new _ _ _) (by intro u hu; simp at hu; subst hu; rfl) (by unfold maxLen; omega) (by omega) (by simp; omega) ?_; intro v3 w3 hown3 hgrow3 _; have hcv := convert_own (l := acc ++ [32]) (by rw [Lib.byteCells_append]; exact hown3) (by simp)))
                go_ret
                exact ⟨by rw [← HFA.out]; rfl, own_below (hbel.alloc hbs _) (hown.alloc _) hgrow3 rfl⟩
              · have hpl' : wh s[s.size - 1] = false := by simpa using hpl
                have HFA : Hid (acc = col false s.data.toList) := by
                  unfold Hid; rw [← HF.out, if_neg (by rw [HLW.out, hpl']; simp), List.append_nil]
                have hcv := convert_own (l := acc) hown (by rw [HFA.out]; exact HCN.out)
                clear HF HCN HLW
                go_wp2_with (first | (go_at_call 17; refine (white_walk s[s.size - 1] _).mono ?_; rintro e w' ⟨rfl, rfl⟩))
                go_ret
                exact ⟨by rw [← HFA.out]; rfl, hbel⟩
            · have HFA : Hid (acc = col false s.data.toList) := by
                unfold Hid; rw [← HF.out, if_neg (fun h => hn0 h.1), List.append_nil]
              have hcv := convert_own (l := acc) hown (by rw [HFA.out]; exact HCN.out)
              clear HF HCN HLW
              go_wp2
              go_ret
              exact ⟨by rw [← HFA.out]; rfl, hbel⟩
      · have HWF : Hid (whiteOn s.data.toList k s.data.toList.length) := hidden (fun t ht h1 h2 => absurd h2 (by omega))
        have HF := hidden (hok.fin h0 HWF.out)
        have HCN : Hid (col false s.data.toList ≠ []) := hidden (fun e => by have := (col_nil _).1 e; rw [List.length_eq_zero_iff.2 this] at hsl; omega)
        clear hsl hok
        have hlast : s.size - 1 < s.size := by omega
        have HLW : Hid (wh (s.data.toList[s.data.toList.length - 1]'(by simpa using hlast)) = wh s[s.size - 1]) := hidden rfl
        by_cases hn0 : 0 < n
        · by_cases hpl : wh s[s.size - 1] = true
          · have HFA : Hid (acc ++ [32] = col false s.data.toList) := by
              unfold Hid; rw [← HF.out, if_pos ⟨hn0, by rw [HLW.out]; exact hpl⟩]
            clear HF HCN HLW
            go_wp2_with (first | (go_at_call 17; refine (white_walk s[s.size - 1] _).mono ?_; rintro e w' ⟨rfl, rfl⟩) | (at_builtin; refine wpList_append_own _ rfl (.tmp 77) (.tmp 78) 27 rfl w.heap.size 5 i0 (.int .u8 0) 1 1 Try.underlying27 hi hz0 hz1 hz2 rfl (by decide) _ _ _ rfl (hown.alloc _) ⟨wr.heap.size, 0, none⟩ 1 1 [_] rfl rfl (cell_one_new _ _ _) (by intro u hu; simp at hu; subst hu; rfl) (by unfold maxLen; omega) (by omega) (by simp; omega) ?_; intro v3 w3 hown3 hgrow3 _; have hcv := convert_own (l := acc ++ [32]) (by rw [Lib.byteCells_append]; exact hown3) (by simp)))
            go_ret
            exact ⟨by rw [← HFA.out]; rfl, own_below (hbel.alloc hbs _) (hown.alloc _) hgrow3 rfl⟩
          · have hpl' : wh s[s.size - 1] = false := by simpa using hpl
            have HFA : Hid (acc = col false s.data.toList) := by
              unfold Hid; rw [← HF.out, if_neg (by rw [HLW.out, hpl']; simp), List.append_nil]
            have hcv := convert_own (l := acc) hown (by rw [HFA.out]; exact HCN.out)
            clear HF HCN HLW
            go_wp2_with (first | (go_at_call 17; refine (white_walk s[s.size - 1] _).mono ?_; rintro e w' ⟨rfl, rfl⟩))
            go_ret
            exact ⟨by rw [← HFA.out]; rfl, hbel⟩
        · have HFA : Hid (acc = col false s.data.toList) := by
            unfold Hid; rw [← HF.out, if_neg (fun h => hn0 h.1), List.append_nil]
          have hcv := convert_own (l := acc) hown (by rw [HFA.out]; exact HCN.out)
          clear HF HCN HLW
          go_wp2
          go_ret
          exact ⟨by rw [← HFA.out]; rfl, hbel⟩
  · have hw0' : wh s[0] = false := by simpa using hw0
    have HLL : Hid (lead s.data.toList = []) := by unfold Hid; rw [HL.out, hw0']; rfl
    go_wp2_with (first | (go_at_call 17; refine (white_walk s[0] _).mono ?_; rintro e w' ⟨rfl, rfl⟩))
    go_loopw [3, 4, 5] (fun out nw i wr => ∃ (v : Value) (acc : List UInt8) (n k : Nat), out = v ∧ nw = .int .i64 n ∧ i = .int .i64 k ∧ Ok s.data.toList acc n k ∧ wr.ownsRow w.heap.size 5 1 v acc.length (Lib.byteCells acc) ∧ Below w.heap.size w wr) (fun _ _ i _ => s.size - (intOf i).toNat)
    case atStart => exact ⟨_, lead s.data.toList, 0, 0, rfl, rfl, rfl, Ok.start _, by rw [HLL.out]; exact hown0, hb0⟩
    case round =>
      clear hown0 hb0 hsz0 hw0 hw0' HLL HL
      obtain ⟨v, acc, n, k, rfl, rfl, rfl, hok, hown, hbel⟩ := hrel
      have hbs := hbel.size
      have hle := hok.le
      have hal := hok.len
      have hsl : s.data.toList.length = s.size := rfl
      have hn1 : n ≤ s.size := by omega
      have hk1 : k ≤ s.size := by omega
      have hal1 : acc.length ≤ s.size := by omega
      clear hle hal
      by_cases hlt : k < s.size
      · go_wp2
        go_loop [5] (fun t => ∃ j : Nat, k ≤ j ∧ j ≤ s.size ∧ t = .int .i64 j ∧ whiteOn s.data.toList k j) (fun t => s.size - (intOf t).toNat)
        case atStart => exact ⟨k, Nat.le_refl _, hk1, rfl, fun t _ h1 h2 => absurd h2 (by omega)⟩
        case round =>
          obtain ⟨j, hkj, hj, rfl, hw⟩ := hrel
          have HW := hidden hw
          clear hw
          by_cases hlt2 : j < s.size
          · by_cases hp : wh s[j] = true
            · go_wp2_with (go_at_call 17; refine (white_walk s[j] _).mono ?_; rintro e w' ⟨rfl, rfl⟩)
              go_round
              case rel => exact ⟨j + 1, by omega, by omega, by go_num, white_snoc HW.out hlt2 hp⟩
              case measure => simp [intOf]; omega
            · have hp' : wh s[j] = false := by simpa using hp
              have hjn : ((j : Int) == (s.size : Int)) = false := beq_eq_false_iff_ne.2 (by omega)
              go_wp2_with (go_at_call 17; refine (white_walk s[j] _).mono ?_; rintro e w' ⟨rfl, rfl⟩)
              go_loop [5] (fun t => ∃ m : Nat, j ≤ m ∧ m ≤ s.size ∧ t = .int .i64 m ∧ darkOn s.data.toList j m) (fun t => s.size - (intOf t).toNat)
              case atStart => exact ⟨j, Nat.le_refl _, hj, rfl, fun t _ h1 h2 => absurd h2 (by omega)⟩
              case round =>
                obtain ⟨m, hjm, hm, rfl, hd⟩ := hrel
                have HD := hidden hd
                clear hd
                by_cases hlt3 : m < s.size
                · by_cases hq : wh s[m] = true
                  · have hjm2 : j < m := by
                      rcases Nat.lt_or_ge j m with h | h
                      · exact h
                      · have e : m = j := by omega
                        subst e; rw [hq] at hp'; cases hp'
                    have HE := hok.step hkj hjm2 hm (by simpa using hlt) HW.out HD.out (fun _ => hq)
                    have hql : (s.extract j m).size ≤ s.size := by rw [ByteArray.size_extract]; omega
                    have HSC : Hid (Lib.strCells (s.extract j m) = Lib.byteCells (seg s.data.toList j m)) := by
                      unfold Hid; rw [← seg_cut s j m]; rfl
                    have HSZ : Hid ((s.extract j m).size = (seg s.data.toList j m).length) := by
                      unfold Hid; rw [← seg_cut s j m]; rfl
                    clear hok hsl HW HD
                    by_cases hn0 : 0 < n
                    · go_wp2_with (first | (go_at_call 17; refine (white_walk s[m] _).mono ?_; rintro e w' ⟨rfl, rfl⟩) | (at_builtin; refine wpList_append_own _ rfl (.tmp 56) (.tmp 57) 27 rfl w.heap.size 5 i0 (.int .u8 0) 1 1 Try.underlying27 hi hz0 hz1 hz2 rfl (by decide) _ _ _ rfl (hown.alloc _) ⟨wr.heap.size, 0, none⟩ 1 1 [_] rfl rfl (cell_one_new _ _ _) (by intro u hu; simp at hu; subst hu; rfl) (by unfold maxLen; omega) (by omega) (by simp; omega) ?_; intro v3 w3 hown3 hgrow3 _; have hb3 := own_below (hbel.alloc hbs _) (hown.alloc _) hgrow3 rfl; have hbs3 := hb3.size) | (at_builtin; refine Lib.wpList_append_own_string _ rfl (.tmp 59) (.tmp 63) 27 9 rfl w.heap.size 5 i0 Try.underlying27 Try.underlying9 hi hz0 hz1 hz2 _ _ _ rfl hown3 _ rfl (by unfold maxLen; omega) (by omega) hbs3 ?_; intro v4 w4 hown4 hgrow4 _))
                      go_roundw
                      case rel =>
                        rw [if_pos hn0] at HE
                        refine ⟨_, _, n + 1, m, rfl, by go_num, rfl, HE, ?_, own_below hb3 hown3 hgrow4 rfl⟩
                        rw [HSC.out, HSZ.out] at hown4
                        simpa [Lib.byteCells_append, Lib.byteCells, Nat.add_assoc, Nat.add_comm 1 (seg s.data.toList j m).length] using hown4
                      case measure => simp [intOf]; omega
                    · go_wp2_with (first | (go_at_call 17; refine (white_walk s[m] _).mono ?_; rintro e w' ⟨rfl, rfl⟩) | (at_builtin; refine Lib.wpList_append_own_string _ rfl (.tmp 59) (.tmp 63) 27 9 rfl w.heap.size 5 i0 Try.underlying27 Try.underlying9 hi hz0 hz1 hz2 _ _ _ rfl hown _ rfl (by unfold maxLen; omega) (by omega) hbs ?_; intro v4 w4 hown4 hgrow4 _))
                      go_roundw
                      case rel =>
                        rw [if_neg hn0] at HE
                        refine ⟨_, _, n + 1, m, rfl, by go_num, rfl, HE, ?_, own_below hbel hown hgrow4 rfl⟩
                        rw [HSC.out, HSZ.out] at hown4
                        simpa [Lib.byteCells_append, Lib.byteCells, Nat.add_assoc] using hown4
                      case measure => simp [intOf]; omega
                  · have hq' : wh s[m] = false := by simpa using hq
                    go_wp2_with (go_at_call 17; refine (white_walk s[m] _).mono ?_; rintro e w' ⟨rfl, rfl⟩)
                    go_round
                    case rel => exact ⟨m + 1, by omega, by omega, by go_num, dark_snoc HD.out hlt3 hq'⟩
                    case measure => simp [intOf]; omega
                · have hjm2 : j < m := by omega
                  have HE := hok.step hkj hjm2 hm (by simpa using hlt) HW.out HD.out (fun h => absurd h (by simp; omega))
                  have hql : (s.extract j m).size ≤ s.size := by rw [ByteArray.size_extract]; omega
                  have HSC : Hid (Lib.strCells (s.extract j m) = Lib.byteCells (seg s.data.toList j m)) := by
                    unfold Hid; rw [← seg_cut s j m]; rfl
                  have HSZ : Hid ((s.extract j m).size = (seg s.data.toList j m).length) := by
                    unfold Hid; rw [← seg_cut s j m]; rfl
                  clear hok hsl HW HD
                  by_cases hn0 : 0 < n
                  · go_wp2_with (first | (go_at_call 17; refine (white_walk s[m] _).mono ?_; rintro e w' ⟨rfl, rfl⟩) | (at_builtin; refine wpList_append_own _ rfl (.tmp 56) (.tmp 57) 27 rfl w.heap.size 5 i0 (.int .u8 0) 1 1 Try.underlying27 hi hz0 hz1 hz2 rfl (by decide) _ _ _ rfl (hown.alloc _) ⟨wr.heap.size, 0, none⟩ 1 1 [_] rfl rfl (cell_one_new _ _ _) (by intro u hu; simp at hu; subst hu; rfl) (by unfold maxLen; omega) (by omega) (by simp; omega) ?_; intro v3 w3 hown3 hgrow3 _; have hb3 := own_below (hbel.alloc hbs _) (hown.alloc _) hgrow3 rfl; have hbs3 := hb3.size) | (at_builtin; refine Lib.wpList_append_own_string _ rfl (.tmp 59) (.tmp 63) 27 9 rfl w.heap.size 5 i0 Try.underlying27 Try.underlying9 hi hz0 hz1 hz2 _ _ _ rfl hown3 _ rfl (by unfold maxLen; omega) (by omega) hbs3 ?_; intro v4 w4 hown4 hgrow4 _))
                    go_roundw
                    case rel =>
                      rw [if_pos hn0] at HE
                      refine ⟨_, _, n + 1, m, rfl, by go_num, rfl, HE, ?_, own_below hb3 hown3 hgrow4 rfl⟩
                      rw [HSC.out, HSZ.out] at hown4
                      simpa [Lib.byteCells_append, Lib.byteCells, Nat.add_assoc, Nat.add_comm 1 (seg s.data.toList j m).length] using hown4
                    case measure => simp [intOf]; omega
                  · go_wp2_with (first | (go_at_call 17; refine (white_walk s[m] _).mono ?_; rintro e w' ⟨rfl, rfl⟩) | (at_builtin; refine Lib.wpList_append_own_string _ rfl (.tmp 59) (.tmp 63) 27 9 rfl w.heap.size 5 i0 Try.underlying27 Try.underlying9 hi hz0 hz1 hz2 _ _ _ rfl hown _ rfl (by unfold maxLen; omega) (by omega) hbs ?_; intro v4 w4 hown4 hgrow4 _))
                    go_roundw
                    case rel =>
                      rw [if_neg hn0] at HE
                      refine ⟨_, _, n + 1, m, rfl, by go_num, rfl, HE, ?_, own_below hbel hown hgrow4 rfl⟩
                      rw [HSC.out, HSZ.out] at hown4
                      simpa [Lib.byteCells_append, Lib.byteCells, Nat.add_assoc] using hown4
                    case measure => simp [intOf]; omega
          · have ej : j = s.size := by omega
            subst ej
            have hjn : ((s.size : Int) == (s.size : Int)) = true := beq_iff_eq.2 rfl
            have HWF : Hid (whiteOn s.data.toList k s.data.toList.length) := HW.out
            have HF := hidden (hok.fin h0 HWF.out)
            have HCN : Hid (col false s.data.toList ≠ []) := hidden (fun e => by have := (col_nil _).1 e; rw [List.length_eq_zero_iff.2 this] at hsl; omega)
            clear hsl hok
            have hlast : s.size - 1 < s.size := by omega
            have HLW : Hid (wh (s.data.toList[s.data.toList.length - 1]'(by simpa using hlast)) = wh s[s.size - 1]) := hidden rfl
            by_cases hn0 : 0 < n
            · by_cases hpl : wh s[s.size - 1] = true
              · have HFA : Hid (acc ++ [32] = col false s.data.toList) := by
                  unfold Hid; rw [← HF.out, if_pos ⟨hn0, by rw [HLW.out]; exact hpl⟩]
                clear HF HCN HLW
                go_wp2_with (first | (go_at_call 17; refine (white_walk s[s.size - 1] _).mono ?_; rintro e w' ⟨rfl, rfl⟩) | (at_builtin; refine wpList_append_own _ rfl (.tmp 77) (.tmp 78) 27 rfl w.heap.size 5 i0 (.int .u8 0) 1 1 Try.underlying27 hi hz0 hz1 hz2 rfl (by decide) _ _ _ rfl (hown.alloc _) ⟨wr.heap.size, 0, none⟩ 1 1 [_] rfl rfl (cell_one_new _ _ _) (by intro u hu; simp at hu; subst hu; rfl) (by unfold maxLen; omega) (by omega) (by simp; omega) ?_; intro v3 w3 hown3 hgrow3 _; have hcv := convert_own (l := acc ++ [32]) (by rw [Lib.byteCells_append]; exact hown3) (by simp)))
                go_ret
                exact ⟨by rw [← HFA.out]; rfl, own_below (hbel.alloc hbs _) (hown.alloc _) hgrow3 rfl⟩
              · have hpl' : wh s[s.size - 1] = false := by simpa using hpl
                have HFA : Hid (acc = col false s.data.toList) := by
                  unfold Hid; rw [← HF.out, if_neg (by rw [HLW.out, hpl']; simp), List.append_nil]
                have hcv := convert_own (l := acc) hown (by rw [HFA.out]; exact HCN.out)
                clear HF HCN HLW
                go_wp2_with (first | (go_at_call 17; refine (white_walk s[s.size - 1] _).mono ?_; rintro e w' ⟨rfl, rfl⟩))
                go_ret
                exact ⟨by rw [← HFA.out]; rfl, hbel⟩
            · have HFA : Hid (acc = col false s.data.toList) := by
                unfold Hid; rw [← HF.out, if_neg (fun h => hn0 h.1), List.append_nil]
              have hcv := convert_own (l := acc) hown (by rw [HFA.out]; exact HCN.out)
              clear HF HCN HLW
              go_wp2
              go_ret
              exact ⟨by rw [← HFA.out]; rfl, hbel⟩
      · have HWF : Hid (whiteOn s.data.toList k s.data.toList.length) := hidden (fun t ht h1 h2 => absurd h2 (by omega))
        have HF := hidden (hok.fin h0 HWF.out)
        have HCN : Hid (col false s.data.toList ≠ []) := hidden (fun e => by have := (col_nil _).1 e; rw [List.length_eq_zero_iff.2 this] at hsl; omega)
        clear hsl hok
        have hlast : s.size - 1 < s.size := by omega
        have HLW : Hid (wh (s.data.toList[s.data.toList.length - 1]'(by simpa using hlast)) = wh s[s.size - 1]) := hidden rfl
        by_cases hn0 : 0 < n
        · by_cases hpl : wh s[s.size - 1] = true
          · have HFA : Hid (acc ++ [32] = col false s.data.toList) := by
              unfold Hid; rw [← HF.out, if_pos ⟨hn0, by rw [HLW.out]; exact hpl⟩]
            clear HF HCN HLW
            go_wp2_with (first | (go_at_call 17; refine (white_walk s[s.size - 1] _).mono ?_; rintro e w' ⟨rfl, rfl⟩) | (at_builtin; refine wpList_append_own _ rfl (.tmp 77) (.tmp 78) 27 rfl w.heap.size 5 i0 (.int .u8 0) 1 1 Try.underlying27 hi hz0 hz1 hz2 rfl (by decide) _ _ _ rfl (hown.alloc _) ⟨wr.heap.size, 0, none⟩ 1 1 [_] rfl rfl (cell_one_new _ _ _) (by intro u hu; simp at hu; subst hu; rfl) (by unfold maxLen; omega) (by omega) (by simp; omega) ?_; intro v3 w3 hown3 hgrow3 _; have hcv := convert_own (l := acc ++ [32]) (by rw [Lib.byteCells_append]; exact hown3) (by simp)))
            go_ret
            exact ⟨by rw [← HFA.out]; rfl, own_below (hbel.alloc hbs _) (hown.alloc _) hgrow3 rfl⟩
          · have hpl' : wh s[s.size - 1] = false := by simpa using hpl
            have HFA : Hid (acc = col false s.data.toList) := by
              unfold Hid; rw [← HF.out, if_neg (by rw [HLW.out, hpl']; simp), List.append_nil]
            have hcv := convert_own (l := acc) hown (by rw [HFA.out]; exact HCN.out)
            clear HF HCN HLW
            go_wp2_with (first | (go_at_call 17; refine (white_walk s[s.size - 1] _).mono ?_; rintro e w' ⟨rfl, rfl⟩))
            go_ret
            exact ⟨by rw [← HFA.out]; rfl, hbel⟩
        · have HFA : Hid (acc = col false s.data.toList) := by
            unfold Hid; rw [← HF.out, if_neg (fun h => hn0 h.1), List.append_nil]
          have hcv := convert_own (l := acc) hown (by rw [HFA.out]; exact HCN.out)
          clear HF HCN HLW
          go_wp2
          go_ret
          exact ⟨by rw [← HFA.out]; rfl, hbel⟩
end Go.Proofs.Qxb6000745a
