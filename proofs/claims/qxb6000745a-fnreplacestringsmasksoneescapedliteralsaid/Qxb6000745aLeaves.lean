/-
  THE WALKS OF THE LEAVES: zzBytes (12, 16, 19, 23), zzIsWhite (17), isSpace (35), zzCountDark (18), zzCountQuotes (20).
-/
import Derived.Test.Qxb6000745aRows
import Derived.Test.Qxb6000745aPlain
import Derived.Test.Qxb6000745aShelf
import Derived.Test.Qxb6000745aBuilder
import Derived.WalkKit
import Derived.BigCall
import Derived.WalkSpells
import Derived.Lib.IndexLaws
namespace Go.Proofs.Qxb6000745a
open Go.RowKit

theorem hidden {p : Prop} (h : p) : Hid p := h
theorem ret_int {k : IntKind} {a b : Int} (h : a = b) : Ending.returned (.int k a) = .returned (.int k b) := by rw [h]

theorem byte_at (s : ByteArray) (l : List UInt8) (h : s.data.toList = l) (j : Nat) (hj : j < s.size) (c : UInt8) (hl : l[j]? = some c) : s[j]'hj = c := by
  subst h
  rw [Array.getElem?_toList] at hl
  have : s.data[j]? = some (s.data[j]'hj) := Array.getElem?_eq_getElem hj
  rw [this] at hl
  exact Option.some.inj hl

theorem take_at (s : ByteArray) (k : Nat) (h : k < s.size) : s.data.toList.take (k + 1) = s.data.toList.take k ++ [s[k]] := by
  rw [List.take_succ_eq_append_getElem (by simpa using h)]; rfl

theorem drop_at (s : ByteArray) (k : Nat) (h : k < s.size) : s.data.toList.drop k = s[k] :: s.data.toList.drop (k + 1) := by
  rw [List.drop_eq_getElem_cons (by simpa using h)]; rfl

theorem list_at (s : ByteArray) (k : Nat) (h : k < s.size) : s.data.toList[k]'(by simpa using h) = s[k] := rfl

theorem size_of (s : ByteArray) (l : List UInt8) (h : s.data.toList = l) : s.size = l.length := by
  subst h; rfl

theorem size_bytes (l : List UInt8) : (⟨l.toArray⟩ : ByteArray).size = l.length := by simp [ByteArray.size]

theorem str_eq (q : ByteArray) (m : List UInt8) (h : q.data.toList = m) : q = ⟨m.toArray⟩ := by
  subst h; rfl

set_option maxHeartbeats 400000 in
theorem zzBytes12 (a : ByteArray) (ha : a.size ≤ maxLen) (w : World) :
    Calls Try.prog 12 #[.string a] w fun e w' => (e = .returned (.bool true) ∨ e = .returned (.bool false)) ∧ w = w' := by
  unfold maxLen at ha
  go_enter Try.func12, Try.ntmps12
  go_wp2
  all_goals (go_ret; exact ⟨by simp, rfl⟩)

set_option maxHeartbeats 400000 in
theorem zzBytes16 (a : ByteArray) (ha : a.size ≤ maxLen) (w : World) :
    Calls Try.prog 16 #[.string a] w fun e w' => (e = .returned (.bool true) ∨ e = .returned (.bool false)) ∧ w = w' := by
  unfold maxLen at ha
  go_enter Try.func16, Try.ntmps16
  go_wp2
  all_goals (go_ret; exact ⟨by simp, rfl⟩)

set_option maxHeartbeats 400000 in
theorem zzBytes23 (a : ByteArray) (ha : a.size ≤ maxLen) (w : World) :
    Calls Try.prog 23 #[.string a] w fun e w' => (e = .returned (.bool true) ∨ e = .returned (.bool false)) ∧ w = w' := by
  unfold maxLen at ha
  go_enter Try.func23, Try.ntmps23
  go_wp2
  all_goals (go_ret; exact ⟨by simp, rfl⟩)

set_option maxHeartbeats 400000 in
theorem zzBytes19 (a m b : ByteArray) (ha : a.size ≤ maxLen) (hm : m.size ≤ maxLen) (hb : b.size ≤ maxLen) (w : World) :
    Calls Try.prog 19 #[.string a, .string m, .string b] w fun e w' => (e = .returned (.bool true) ∨ e = .returned (.bool false)) ∧ w = w' := by
  unfold maxLen at ha hm hb
  go_enter Try.func19, Try.ntmps19
  go_wp2
  all_goals (go_ret; exact ⟨by simp, rfl⟩)

theorem byte_int (c : UInt8) (k : Nat) (hk : k < 256) : ((c.toNat : Int) == (k : Int)) = (c == UInt8.ofNat k) := by
  rw [Bool.eq_iff_iff]
  simp only [beq_iff_eq]
  constructor
  · intro h
    apply UInt8.toNat_inj.1
    have : c.toNat = k := by omega
    rw [this]
    simp [UInt8.toNat_ofNat', Nat.mod_eq_of_lt hk]
  · intro h
    subst h
    simp [UInt8.toNat_ofNat', Nat.mod_eq_of_lt hk]

set_option maxHeartbeats 1000000 in
theorem white_walk (c : UInt8) (w : World) :
    Calls Try.prog 17 #[.int .u8 (c.toNat : Int)] w fun e w' => e = .returned (.bool (wh c)) ∧ w = w' := by
  have h1 := byte_int c 32 (by omega)
  have h2 := byte_int c 9 (by omega)
  have h3 := byte_int c 10 (by omega)
  have h4 := byte_int c 13 (by omega)
  have h5 := byte_int c 12 (by omega)
  have h6 := byte_int c 11 (by omega)
  have HW : Hid (wh c = (c == 32 || c == 9 || c == 10 || c == 13 || c == 12 || c == 11)) := rfl
  have e1 : ((c.toNat : Int) == 32) = (c == 32) := h1
  have e2 : ((c.toNat : Int) == 9) = (c == 9) := h2
  have e3 : ((c.toNat : Int) == 10) = (c == 10) := h3
  have e4 : ((c.toNat : Int) == 13) = (c == 13) := h4
  have e5 : ((c.toNat : Int) == 12) = (c == 12) := h5
  have e6 : ((c.toNat : Int) == 11) = (c == 11) := h6
  clear h1 h2 h3 h4 h5 h6
  go_enter Try.func17, Try.ntmps17
  go_wp2
  all_goals
    go_ret
    refine ⟨?_, rfl⟩
    rw [HW.out]
    first | rfl | (have h : c = 32 := by assumption
                   subst h; rfl) | (have h : c = 9 := by assumption
                                    subst h; rfl) | (have h : c = 10 := by assumption
                                                     subst h; rfl) | (have h : c = 13 := by assumption
                                                                      subst h; rfl) | (have h : c = 12 := by assumption
                                                                                       subst h; rfl)

def idx (l : List UInt8) (c : UInt8) : Int := Lib.indexByte l c

theorem idx_neg {l : List UInt8} {c : UInt8} (h : idx l c < 0) : c ∉ l := by
  have h1 := Lib.indexByte_ge l c
  have h2 : Lib.indexByte l c = -1 := by unfold idx at h; omega
  intro hm
  obtain ⟨k, hk, he⟩ := List.mem_iff_getElem.1 hm
  exact Lib.indexByte_none h2 k (by rw [List.getElem?_eq_getElem hk, he])

theorem index_walk (s : ByteArray) (c : Nat) (w : World) :
    Calls Try.prog 38 #[.string s, .int .u8 (c : Int)] w fun e w' => e = .returned (.int .i64 (idx s.data.toList c.toUInt8)) ∧ w = w' := by
  have := Try.strings_IndexByte s c w
  simpa [idx, eq_comm] using this

theorem space_table : ∀ k : Fin 256, decide (0 ≤ idx [32, 9, 10, 13, 12, 11] (UInt8.ofNat k.val)) = wh (UInt8.ofNat k.val) := by decide +kernel
theorem space_eq (c : UInt8) : decide (0 ≤ idx [32, 9, 10, 13, 12, 11] c) = wh c := by
  have := space_table ⟨c.toNat, c.toNat_lt⟩
  simpa using this

theorem space_index (c : UInt8) (w : World) :
    Calls Try.prog 38 #[.string ⟨#[32, 9, 10, 13, 12, 11]⟩, .int .u8 (c.toNat : Int)] w fun e w' => e = .returned (.int .i64 (idx [32, 9, 10, 13, 12, 11] c)) ∧ w = w' := by
  have := index_walk ⟨#[32, 9, 10, 13, 12, 11]⟩ c.toNat w
  simpa using this

set_option maxHeartbeats 1000000 in
theorem space_walk (c : UInt8) (w : World) :
    Calls Try.prog 35 #[.int .u8 (c.toNat : Int)] w fun e w' => e = .returned (.bool (wh c)) ∧ w = w' := by
  have HS := hidden (space_eq c)
  go_enter Try.func35, Try.ntmps35
  go_wp2_with (go_at_call 38; refine (space_index c _).mono ?_; rintro e w' ⟨rfl, rfl⟩)
  go_ret
  refine ⟨?_, rfl⟩
  rw [← HS.out]
  rfl

set_option maxHeartbeats 1000000 in
theorem dark_walk (s : ByteArray) (hs : s.size ≤ 1048576) (w : World) :
    Calls Try.prog 18 #[.string s] w fun e w' => e = .returned (.int .i64 (dk s.data.toList : Nat)) ∧ w = w' := by
  go_enter Try.func18, Try.ntmps18
  go_wp2
  go_loop [3, 4] (fun n i => ∃ k m : Nat, k ≤ s.size ∧ i = .int .i64 k ∧ n = .int .i64 m ∧ m = dk (s.data.toList.take k)) (fun _ i => s.size - (intOf i).toNat)
  case atStart => exact ⟨0, 0, Nat.zero_le _, rfl, rfl, rfl⟩
  case round =>
    obtain ⟨k, m, hk, rfl, rfl, hm⟩ := hrel
    have hle := dk_le (s.data.toList.take k)
    have hl : (s.data.toList.take k).length ≤ k := List.length_take_le _ _
    have hmk : m ≤ k := by omega
    clear hle hl
    by_cases hlt : k < s.size
    · have HT : Hid (dk (s.data.toList.take (k + 1)) = m + if wh s[k] then 0 else 1) := by
        unfold Hid; rw [take_at s k hlt, dk_snoc, hm]
      clear hm
      by_cases hp : wh s[k] = true
      · go_wp2_with (go_at_call 17; refine (white_walk s[k] _).mono ?_; rintro e w' ⟨rfl, rfl⟩)
        go_round
        case rel => exact ⟨k + 1, m, by omega, by go_num, rfl, by rw [HT.out, hp]; rfl⟩
        case measure => simp [intOf]; omega
      · have hp' : wh s[k] = false := by simpa using hp
        go_wp2_with (go_at_call 17; refine (white_walk s[k] _).mono ?_; rintro e w' ⟨rfl, rfl⟩)
        go_round
        case rel => exact ⟨k + 1, m + 1, by omega, by go_num, by go_num, by rw [HT.out, hp']; rfl⟩
        case measure => simp [intOf]; omega
    · have HM : Hid (m = dk s.data.toList) := by
        unfold Hid; rw [hm, List.take_of_length_le (by simp; omega)]
      clear hm
      go_wp2
      go_ret
      exact ⟨ret_int (by rw [HM.out]), rfl⟩

set_option maxHeartbeats 1000000 in
theorem quotes_walk (s : ByteArray) (hs : s.size ≤ 1048576) (w : World) :
    Calls Try.prog 20 #[.string s] w fun e w' => e = .returned (.int .i64 (cq s.data.toList : Nat)) ∧ w = w' := by
  go_enter Try.func20, Try.ntmps20
  go_wp2
  go_loop [3, 4] (fun n i => ∃ k m : Nat, k ≤ s.size ∧ i = .int .i64 k ∧ n = .int .i64 m ∧ m = cq (s.data.toList.take k)) (fun _ i => s.size - (intOf i).toNat)
  case atStart => exact ⟨0, 0, Nat.zero_le _, rfl, rfl, rfl⟩
  case round =>
    obtain ⟨k, m, hk, rfl, rfl, hm⟩ := hrel
    have hle := cq_le (s.data.toList.take k)
    have hl : (s.data.toList.take k).length ≤ k := List.length_take_le _ _
    have hmk : m ≤ k := by omega
    clear hle hl
    by_cases hlt : k < s.size
    · have HT : Hid (cq (s.data.toList.take (k + 1)) = m + if s[k] = 39 then 1 else 0) := by
        unfold Hid; rw [take_at s k hlt, cq_snoc, hm]
      clear hm
      by_cases hp : s[k] = 39
      · have hn : s[k].toNat = 39 := by rw [hp]; rfl
        go_wp2
        go_round
        case rel => exact ⟨k + 1, m + 1, by omega, by go_num, by go_num, by rw [HT.out, if_pos hp]⟩
        case measure => simp [intOf]; omega
      · have hn : ¬ (s[k].toNat : Int) = 39 := by
          intro e; apply hp; apply UInt8.toNat_inj.1; simpa using (by omega : s[k].toNat = 39)
        go_wp2
        go_round
        case rel => exact ⟨k + 1, m, by omega, by go_num, rfl, by rw [HT.out, if_neg hp]; rfl⟩
        case measure => simp [intOf]; omega
    · have HM : Hid (m = cq s.data.toList) := by
        unfold Hid; rw [hm, List.take_of_length_le (by simp; omega)]
      clear hm
      go_wp2
      go_ret
      exact ⟨ret_int (by rw [HM.out]), rfl⟩
end Go.Proofs.Qxb6000745a
