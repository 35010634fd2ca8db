/-
  THE WALK OF THE LAW OF THE NORMAL FORM (5).
-/
import Derived.Test.Qxb6000745aCol
namespace Go.Proofs.Qxb6000745a
open Go.RowKit

set_option maxHeartbeats 800000 in
set_option maxRecDepth 100000 in
theorem normal_far (s : ByteArray) (hs : s.size ≤ maxLen) (hbig : 65536 < s.size) (w : World) :
    Calls Try.prog 5 #[.string s] w fun e w' => e = .returned (.bool true) ∧ Below w.heap.size w w' := by
  have hl := hs
  unfold maxLen at hl
  go_enter Try.func5, Try.ntmps5
  go_wp2_with fail
  refine (zzBytes16 s hs _).mono ?_
  rintro e w' ⟨rfl | rfl, rfl⟩
  all_goals
    go_wp2
    go_ret
    exact ⟨rfl, Below.refl _ _⟩

set_option maxHeartbeats 800000 in
set_option maxRecDepth 100000 in
theorem normal_near (s : ByteArray) (hs : s.size ≤ 65536) (w : World) :
    Calls Try.prog 5 #[.string s] w fun e w' => e = .returned (.bool true) ∧ Below w.heap.size w w' := by
  obtain ⟨o, ho⟩ : ∃ o : ByteArray, o = ⟨(col false s.data.toList).toArray⟩ := ⟨_, rfl⟩
  have hol : o.data.toList = col false s.data.toList := by rw [ho]
  have hoz : o.size = (col false s.data.toList).length := by rw [size_of o _ hol]
  have hsl : s.data.toList.length = s.size := rfl
  have h1 : o.size ≤ s.size := by have := col_len s.data.toList false; simp at this; omega
  have h2 : ((o.size : Int) == 0) = ((s.size : Int) == 0) := by
    rw [Bool.eq_iff_iff]
    simp only [beq_iff_eq]
    have e1 : (o.size : Int) = 0 ↔ col false s.data.toList = [] := by rw [← List.length_eq_zero_iff]; omega
    have e2 : (s.size : Int) = 0 ↔ s.data.toList = [] := by rw [← List.length_eq_zero_iff]; omega
    rw [e1, e2]
    exact col_nil _
  have HD : Hid (dk o.data.toList = dk s.data.toList) := by unfold Hid; rw [hol]; exact col_dk _ _
  have HO : Hid (∀ k (hk : k < o.size), wh o[k] = true → o[k] = 32) := fun k hk hw =>
    col_only s.data.toList false o[k] (by rw [← hol, ← list_at o k hk]; exact List.getElem_mem _) hw
  have HN : Hid (∀ k (hk : k + 1 < o.size), ¬ (wh (o[k]'(Nat.lt_of_succ_lt hk)) = true ∧ wh o[k + 1] = true)) := fun k hk =>
    nn_at o.data.toList (by rw [hol]; exact col_nn _ _) k (by simpa using hk)
  have hf1 : decide (s.size < o.size) = false := by simp; omega
  have hf2 : decide ((s.size : Int) < (o.size : Int)) = false := by simp; omega
  have hf3 : decide ((65536 : Int) < (s.size : Int)) = false := by simp; omega
  have HE := hidden ho
  clear hoz hol hsl ho
  go_enter Try.func5, Try.ntmps5
  go_wp2_with fail
  refine (zzBytes16 s (by unfold maxLen; omega) _).mono ?_
  rintro e w' ⟨rfl | rfl, rfl⟩
  · go_wp2_with fail
    refine (zzcol_walk s hs _).mono ?_
    rintro e w1 ⟨rfl, hb1⟩
    rw [← HE.out]
    go_wp2
    go_loop [4] (fun t => ∃ k : Nat, k ≤ o.size ∧ t = .int .i64 k) (fun t => o.size - (intOf t).toNat)
    case atStart => exact ⟨0, Nat.zero_le _, rfl⟩
    case round =>
      obtain ⟨k, hk, rfl⟩ := hrel
      by_cases hlt : k < o.size
      · by_cases hp : wh o[k] = true
        · have H32 : Hid (o[k].toNat = 32) := by unfold Hid; rw [HO.out k hlt hp]; rfl
          cases k with
          | zero =>
            go_wp2_with fail
            refine (white_walk o[0] _).mono ?_
            rintro e w' ⟨rfl, rfl⟩
            have h32 := H32.out
            go_wp2
            go_round
            case rel => exact ⟨1, by omega, rfl⟩
            case measure => simp [intOf]; omega
          | succ j =>
            have hj : j < o.size := by omega
            have hn : ((o[j].toNat : Int) == 32) = false := by
              refine beq_eq_false_iff_ne.2 fun e => HN.out j hlt ⟨?_, hp⟩
              have e2 : o[j] = 32 := by apply UInt8.toNat_inj.1; simpa using (by omega : o[j].toNat = 32)
              rw [e2]; rfl
            go_wp2_with fail
            refine (white_walk o[j + 1] _).mono ?_
            rintro e w' ⟨rfl, rfl⟩
            have h32 := H32.out
            go_wp2
            go_round
            case rel => exact ⟨j + 2, by omega, by go_num⟩
            case measure => simp [intOf]; omega
        · have hp' : wh o[k] = false := by simpa using hp
          go_wp2_with (go_at_call 17; refine (white_walk o[k] _).mono ?_; rintro e w' ⟨rfl, rfl⟩)
          go_round
          case rel => exact ⟨k + 1, by omega, by go_num⟩
          case measure => simp [intOf]; omega
      · go_wp2_with fail
        refine (dark_walk o (by omega) _).mono ?_
        rintro e w' ⟨rfl, rfl⟩
        rw [HD.out]
        go_wp2_with fail
        refine (dark_walk s (by omega) _).mono ?_
        rintro e w' ⟨rfl, rfl⟩
        go_wp2
        go_ret
        exact ⟨by simp, hb1⟩
  · go_wp2
    go_ret
    exact ⟨rfl, Below.refl _ _⟩

theorem normal_walk (s : ByteArray) (hs : s.size ≤ maxLen) (w : World) :
    Calls Try.prog 5 #[.string s] w fun e w' => e = .returned (.bool true) ∧ Below w.heap.size w w' := by
  by_cases h : 65536 < s.size
  · exact normal_far s hs h w
  · exact normal_near s (by omega) w
end Go.Proofs.Qxb6000745a
