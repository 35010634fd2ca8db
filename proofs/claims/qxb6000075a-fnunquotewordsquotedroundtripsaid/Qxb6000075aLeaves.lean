/-
  THE WALKS OF THE LEAVES: zzBytes (9), hasQuote (10), closing (19).
-/
import Derived.Test.Qxb6000075aRows
import Derived.Test.Qxb6000075aPlain
import Derived.WalkKit
import Derived.BigCall
namespace Go.Proofs.Qxb6000075a
open Go.RowKit

theorem ret_int {k : IntKind} {a b : Int} (h : a = b) : Ending.returned (.int k a) = .returned (.int k b) := by rw [h]

theorem byte_at (s : ByteArray) (l : List UInt8) (h : s.data.toList = l) (j : Nat) (hj : j < s.size) (c : UInt8) (hl : l[j]? = some c) : s[j]'hj = c := by
  subst h
  rw [Array.getElem?_toList] at hl
  have : s.data[j]? = some (s.data[j]'hj) := Array.getElem?_eq_getElem hj
  rw [this] at hl
  exact Option.some.inj hl

theorem take_at (s : ByteArray) (k : Nat) (h : k < s.size) : s.data.toList.take (k + 1) = s.data.toList.take k ++ [s[k]] := by
  rw [List.take_succ_eq_append_getElem (by simpa using h)]; rfl

theorem size_of (s : ByteArray) (l : List UInt8) (h : s.data.toList = l) : s.size = l.length := by
  subst h; rfl

def hasQ (l : List UInt8) : Bool := l.contains 34
theorem hasQ_append (a b : List UInt8) : hasQ (a ++ b) = (hasQ a || hasQ b) := by unfold hasQ; exact List.contains_append

set_option maxHeartbeats 400000 in
theorem zzBytes_walk (a m b : ByteArray) (ha : a.size ≤ maxLen) (hm : m.size ≤ maxLen) (hb : b.size ≤ maxLen) (w : World) :
    Calls Try.prog 9 #[.string a, .string m, .string b] w fun e w' => (e = .returned (.bool true) ∨ e = .returned (.bool false)) ∧ w = w' := by
  unfold maxLen at ha hm hb
  go_enter Try.func9, Try.ntmps9
  go_wp2
  all_goals (go_ret; exact ⟨by simp, rfl⟩)

set_option maxHeartbeats 400000 in
theorem hasQuote_walk (s : ByteArray) (hs : s.size ≤ maxLen) (w : World) :
    Calls Try.prog 10 #[.string s] w fun e w' => e = .returned (.bool (hasQ s.data.toList)) ∧ w = w' := by
  unfold maxLen at hs
  go_enter Try.func10, Try.ntmps10
  go_wp2
  go_loop [3] (fun i => ∃ k : Nat, k ≤ s.size ∧ i = .int .i64 k ∧ hasQ (s.data.toList.take k) = false) (fun i => s.size - (intOf i).toNat)
  case atStart => exact ⟨0, Nat.zero_le _, rfl, rfl⟩
  case round =>
    obtain ⟨k, hk, rfl, hno⟩ := hrel
    have HN : Hid (hasQ (s.data.toList.take k) = false) := hno
    clear hno
    by_cases hlt : k < s.size
    · have hts : Hid (s.data.toList.take (k + 1) = s.data.toList.take k ++ [s[k]]) := take_at s k hlt
      by_cases hc : (s[k].toNat : Int) = 34
      · go_wp2
        go_ret
        refine ⟨?_, rfl⟩
        have e : s[k] = 34 := by apply UInt8.toNat_inj.1; simpa using (by omega : s[k].toNat = 34)
        rw [show hasQ s.data.toList = true from List.contains_iff_mem.2 (List.mem_of_mem_take (i := k + 1) (by rw [hts.out, e]; simp))]
        rfl
      · go_wp2
        go_round
        case rel =>
          refine ⟨k + 1, by omega, by go_num, ?_⟩
          rw [hts.out, hasQ_append, HN.out]
          have e : ¬ s[k] = 34 := fun h => hc (by rw [h]; rfl)
          simpa [hasQ] using fun h => e h.symm
        case measure => simp [intOf]; omega
    · go_wp2
      go_ret
      refine ⟨?_, rfl⟩
      have := HN.out
      rw [List.take_of_length_le (by simp; omega)] at this
      rw [this]
      rfl

set_option maxHeartbeats 400000 in
/-- 'closing' at the opening quote of a quoted word: the place of the quote that closes it. -/
theorem closing_walk (s : ByteArray) (pre m post : List UInt8) (hs : s.size ≤ maxLen) (h : s.data.toList = (pre ++ [34]) ++ (esc m ++ 34 :: post)) (i : Int) (hi : i = pre.length) (w : World) :
    Calls Try.prog 19 #[.string s, .int .i64 i, .int .u8 34] w fun e w' => e = .returned (.int .i64 ((pre.length + 1 + (esc m).length : Nat) : Int)) ∧ w = w' := by
  unfold maxLen at hs
  have hsz := size_of s _ h
  simp at hsz
  have hlen : pre.length + 1 + (esc m).length < s.size := by omega
  clear hsz
  have H : Hid (s.data.toList = (pre ++ [34]) ++ (esc m ++ 34 :: post)) := h
  clear h
  subst hi
  go_enter Try.func19, Try.ntmps19
  go_wp2
  go_loop [7] (fun t => ∃ j k : Nat, k ≤ m.length ∧ j = pre.length + 1 + (esc (m.take k)).length ∧ t = .int .i64 j) (fun t => s.size - (intOf t).toNat)
  case atStart => exact ⟨pre.length + 1, 0, Nat.zero_le _, by simp [esc], by go_num⟩
  case round =>
    obtain ⟨j, k, hk, hj, rfl⟩ := hrel
    have HJ : Hid (j = pre.length + 1 + (esc (m.take k)).length) := hj
    by_cases hlt : k < m.length
    · have hl2 := esc_take_lt m k hlt
      have hjs : j < s.size := by omega
      have hl3 := esc_take_succ_len m k hlt
      have hat := head_at (pre ++ [34]) m (34 :: post) k hlt
      have hb := byte_at s _ H.out j hjs _ (by rw [← hat]; congr 1; simp; omega)
      by_cases hsp : m[k] = 34 ∨ m[k] = 92
      · rw [if_pos hsp] at hb hl3
        have hl4 : (esc (m.take (k + 1))).length ≤ (esc m).length := by
          by_cases e : k + 1 < m.length
          · exact Nat.le_of_lt (esc_take_lt m (k + 1) e)
          · rw [List.take_of_length_le (by omega)]; exact Nat.le_refl _
        have hj2 : j + 1 < s.size := by omega
        have HL : Hid (j + 2 = pre.length + 1 + (esc (m.take (k + 1))).length) := by rw [hl3]; unfold Hid; omega
        have hn : s[j].toNat = 92 := by rw [hb]; rfl
        clear hat hb hl2 hl3 hj hl4
        go_wp2
        go_round
        case rel => exact ⟨j + 2, k + 1, hlt, HL.out, by go_num⟩
        case measure => simp [intOf]; omega
      · rw [if_neg hsp] at hb hl3
        have hn1 : ¬ (s[j].toNat : Int) = 34 := by
          intro e; apply hsp; left; rw [← hb]; apply UInt8.toNat_inj.1; simpa using (by omega : s[j].toNat = 34)
        have hn2 : ¬ (s[j].toNat : Int) = 92 := by
          intro e; apply hsp; right; rw [← hb]; apply UInt8.toNat_inj.1; simpa using (by omega : s[j].toNat = 92)
        have HL : Hid (j + 1 = pre.length + 1 + (esc (m.take (k + 1))).length) := by rw [hl3]; unfold Hid; omega
        clear hat hb hl2 hl3 hj
        go_wp2
        go_round
        case rel => exact ⟨j + 1, k + 1, hlt, HL.out, by go_num⟩
        case measure => simp [intOf]; omega
    · have hk' : k = m.length := by omega
      subst hk'
      rw [List.take_length] at hj
      have hjs : j < s.size := by omega
      have hn : s[j].toNat = 34 := by
        have := byte_at s _ H.out j hjs 34 (by rw [← close_at (pre ++ [34]) m post]; congr 1; simp; omega)
        rw [this]; rfl
      have HL : Hid (j = pre.length + 1 + (esc m).length) := hj
      clear hj
      go_wp2
      go_ret
      exact ⟨ret_int (by have := HL.out; omega), rfl⟩
end Go.Proofs.Qxb6000075a
