/-
  THE WALK OF unquote (20), at an escaped word.
-/
import Derived.Test.Qxb6000075aQuote
import Derived.Test.Qxb6000075aShelf
import Derived.Test.Qxb6000075aBuilder
import Derived.Lib.IndexLaws
namespace Go.Proofs.Qxb6000075a
open Go.RowKit

/-- Where a byte first stands, behind a name of our own. -/
def idx (l : List UInt8) (c : UInt8) : Int := Lib.indexByte l c

theorem idx_neg {l : List UInt8} {c : UInt8} (h : idx l c < 0) : c ∉ l := by
  have h1 := Lib.indexByte_ge l c
  have h2 : Lib.indexByte l c = -1 := by unfold idx at h; omega
  intro hm
  obtain ⟨k, hk, he⟩ := List.mem_iff_getElem.1 hm
  exact Lib.indexByte_none h2 k (by rw [List.getElem?_eq_getElem hk, he])

theorem idx_pos {l : List UInt8} {c : UInt8} (h : ¬ idx l c < 0) : c ∈ l := by
  obtain ⟨o, ho⟩ : ∃ o : Nat, Lib.indexByte l c = o := ⟨(idx l c).toNat, by unfold idx at *; omega⟩
  exact List.mem_of_getElem? (Lib.indexByte_some ho).1

theorem index_walk (s : ByteArray) (c : Nat) (w : World) :
    Calls Try.prog 18 #[.string s, .int .u8 (c : Int)] w fun e w' => e = .returned (.int .i64 (idx s.data.toList c.toUInt8)) ∧ w = w' := by
  have := Try.strings_IndexByte s c w
  simpa [idx, eq_comm] using this

theorem str_eq (q : ByteArray) (m : List UInt8) (h : q.data.toList = m) : q = ⟨m.toArray⟩ := by
  subst h; rfl

set_option maxHeartbeats 1000000 in
set_option maxRecDepth 100000 in
theorem unquote_walk (q : ByteArray) (m : List UInt8) (hq : q.data.toList = esc m) (hs : q.size ≤ 1048576) (w : World) :
    Calls Try.prog 20 #[.string q] w fun e w' => e = .returned (.string ⟨m.toArray⟩) ∧ Below w.heap.size w w' := by
  have HQ : Hid (q.data.toList = esc m) := hq
  have hsz : (esc m).length = q.size := by rw [← hq]; rfl
  by_cases hi : idx q.data.toList 92 < 0
  · have hm : esc m = m := esc_plain m (by rw [← hq]; exact idx_neg hi)
    have HM : Hid (q = ⟨m.toArray⟩) := str_eq q m (by rw [hq, hm])
    clear hm hq hsz
    go_enter Try.func20, Try.ntmps20
    go_wp2_with (go_at_call 18; refine (index_walk _ 92 _).mono ?_; rintro e w' ⟨rfl, rfl⟩)
    go_ret
    exact ⟨by rw [← HM.out]; rfl, Below.refl _ _⟩
  · clear hq
    have HZ : Hid ((esc m).length = q.size) := hsz
    clear hsz
    go_enter Try.func20, Try.ntmps20
    go_wp2_with (go_at_call 18; refine (index_walk _ 92 _).mono ?_; rintro e w' ⟨rfl, rfl⟩)
    refine (Try.Builder_Grow_fresh w.heap.size w.heap.size q.size _ (Nat.le_refl _) (heap_alloc_new w _) (by simp) (by omega)).mono ?_
    rintro e w1 ⟨rfl, hat, hb1⟩
    have hb0 : Below w.heap.size w w1 := ((Below.refl _ w).alloc (Nat.le_refl _) _).trans hb1
    clear hb1
    go_wp2
    go_loopw [4] (fun t wr => ∃ i k : Nat, k ≤ m.length ∧ i = (esc (m.take k)).length ∧ t = .int .i64 i ∧ Lib.IsBuilderF 39 5 w.heap.size w.heap.size (Lib.byteCells (m.take k)) wr ∧ Below w.heap.size w wr) (fun t _ => q.size - (intOf t).toNat)
    case atStart => exact ⟨0, 0, Nat.zero_le _, rfl, rfl, Lib.IsBuilderF.of (Or.inr hat), hb0⟩
    case round =>
      clear hat hb0
      obtain ⟨i, k, hk, hi', rfl, hB, hbel⟩ := hrel
      have HI : Hid (i = (esc (m.take k)).length) := hi'
      have hbs := hbel.size
      by_cases hlt : k < m.length
      · have hl2 := esc_take_lt m k hlt
        have hjs : i < q.size := by have := HZ.out; omega
        have hl3 := esc_take_succ_len m k hlt
        have hat := head_at [] m [] k hlt
        have hb := byte_at q _ HQ.out i hjs _ (by rw [← hat]; simp [hi'])
        have hml : (Lib.byteCells (m.take k)).length + 1 ≤ 140737488355328 := by
          rw [Lib.byteCells_length]
          have := (esc_len m).1
          have := HZ.out
          simp only [List.length_take]; omega
        have HK : Hid (Lib.byteCells (m.take (k + 1)) = Lib.byteCells (m.take k) ++ [.int .u8 m[k].toNat]) := by
          unfold Hid; rw [take_snoc m k hlt, Lib.byteCells_append]; rfl
        by_cases hsp : m[k] = 34 ∨ m[k] = 92
        · rw [if_pos hsp] at hb hl3
          have hl4 : (esc (m.take (k + 1))).length ≤ (esc m).length := by
            by_cases e : k + 1 < m.length
            · exact Nat.le_of_lt (esc_take_lt m (k + 1) e)
            · rw [List.take_of_length_le (by omega)]; exact Nat.le_refl _
          have hj2 : i + 1 < q.size := by have := HZ.out; omega
          have HL : Hid (i + 2 = (esc (m.take (k + 1))).length) := by rw [hl3]; unfold Hid; omega
          have hn : q[i].toNat = 92 := by rw [hb]; rfl
          have hn2 : q[i + 1].toNat = m[k].toNat := by
            rw [byte_at q _ HQ.out (i + 1) hj2 m[k] (by rw [← second_at [] m [] k hlt hsp]; simp [hi'])]
          clear hat hb hl2 hl3 hi' hl4
          go_wp2_with (go_at_call 22; refine (Try.Builder_WriteByte_k w.heap.size w.heap.size _ _ _ hB hml hbs).mono ?_)
          rintro e w2 ⟨rfl, h1, b1, _⟩
          go_wp2
          go_roundw
          case rel => exact ⟨i + 2, k + 1, hlt, HL.out, by go_num, by rw [HK.out]; exact Or.inr h1, hbel.trans b1⟩
          case measure => simp [intOf]; omega
        · rw [if_neg hsp] at hb hl3
          have hn2 : ¬ (q[i].toNat : Int) = 92 := by
            intro e; apply hsp; right; rw [← hb]; apply UInt8.toNat_inj.1; simpa using (by omega : q[i].toNat = 92)
          have HN : Hid (q[i].toNat = m[k].toNat) := by unfold Hid; rw [hb]
          have HL : Hid (i + 1 = (esc (m.take (k + 1))).length) := by rw [hl3]; unfold Hid; omega
          clear hat hb hl2 hl3 hi'
          go_wp2_with (go_at_call 22; refine (Try.Builder_WriteByte_k w.heap.size w.heap.size _ _ _ hB hml hbs).mono ?_)
          rintro e w2 ⟨rfl, h1, b1, _⟩
          rw [HN.out] at h1
          go_wp2
          go_roundw
          case rel => exact ⟨i + 1, k + 1, hlt, HL.out, by go_num, by rw [HK.out]; exact Or.inr h1, hbel.trans b1⟩
          case measure => simp [intOf]; omega
      · have HT : Hid (m.take k = m) := List.take_of_length_le (by omega)
        have hge : ¬ i < q.size := by have := HZ.out; have := HT.out; rw [this] at hi'; omega
        rw [HT.out] at hB
        clear hi'
        go_wp2_with (go_at_call 24; refine (Try.Builder_String_any_k w.heap.size w.heap.size m _ hB hbs).mono ?_)
        rintro e w2 ⟨rfl, _, b1, _⟩
        go_wp2
        go_ret
        exact ⟨rfl, hbel.trans b1⟩
end Go.Proofs.Qxb6000075a
