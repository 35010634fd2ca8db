/-
  THE WALK OF unquoteWords (16), at a plain word, a quoted word and a plain word; of its alias (8).
-/
import Derived.Test.Qxb6000075aUnquote
namespace Go.Proofs.Qxb6000075a
open Go.RowKit

theorem hidden {p : Prop} (h : p) : Hid p := h

/-- The bytes of a cut of a string. -/
theorem cut_bytes (s : ByteArray) (pre mid post : List UInt8) (h : s.data.toList = pre ++ (mid ++ post)) (i j : Nat) (hi : i = pre.length) (hj : j = pre.length + mid.length) :
    (s.extract i j).data.toList = mid := by
  subst hi hj
  rw [ByteArray.data_extract, Array.toList_extract, h]
  simp [List.extract_eq_take_drop]

theorem cut_size (s : ByteArray) (i j : Nat) : (s.extract i j).size ≤ j - i := by
  rw [ByteArray.size_extract]; omega

theorem notq {a : List UInt8} (h : hasQ a = false) (k : Nat) (hk : k < a.length) : ¬ (a[k].toNat : Int) = 34 := by
  intro e
  have e2 : a[k] = 34 := by apply UInt8.toNat_inj.1; simpa using (by omega : a[k].toNat = 34)
  have : hasQ a = true := List.contains_iff_mem.2 (e2 ▸ List.getElem_mem hk)
  rw [this] at h; cases h

set_option maxHeartbeats 2000000 in
set_option maxRecDepth 100000 in
theorem words_one (s : ByteArray) (m : List UInt8) (h : s.data.toList = 34 :: (esc m ++ [34])) (hs : s.size ≤ 1048576) (w : World) :
    Calls Try.prog 16 #[.string s] w fun e w' => e = .returned (.string ⟨m.toArray⟩) ∧ Below w.heap.size w w' := by
  have hpos : ¬ idx s.data.toList 34 < 0 := by
    intro hn; apply idx_neg hn; rw [h]; simp
  have hsz : s.size = (esc m).length + 2 := by rw [size_of s _ h]; simp
  have hp0 : 0 < s.size := by omega
  have h0 : (s[0]'hp0).toNat = 34 := by
    rw [byte_at s _ h 0 hp0 34 (by simp)]; rfl
  have H : Hid (s.data.toList = ([] ++ [34]) ++ (esc m ++ 34 :: [])) := by unfold Hid; rw [h]; rfl
  have HZ : Hid (s.size = (esc m).length + 2) := hsz
  clear hsz h
  have ht : ((1 + ((esc m).length : Int)) == (s.size : Int) - 1) = true := beq_iff_eq.2 (by have := HZ.out; omega)
  have hsl : 1 ≤ s.size - 1 := by have := HZ.out; omega
  go_enter Try.func16, Try.ntmps16
  go_wp2_with (first | (go_at_call 18; refine (index_walk _ 34 _).mono ?_; rintro e w' ⟨rfl, rfl⟩) | (go_at_call 19; refine (closing_walk s [] m [] (by unfold maxLen; omega) H.out _ rfl _).mono ?_; rintro e w' ⟨rfl, rfl⟩))
  refine (unquote_walk (s.extract 1 (s.size - 1)) m (cut_bytes s [34] (esc m) [34] H.out 1 (s.size - 1) rfl (by have := HZ.out; simp; omega)) (Nat.le_trans (cut_size _ _ _) (by omega)) _).mono ?_
  rintro e w1 ⟨rfl, hb1⟩
  go_wp2
  go_ret
  exact ⟨rfl, hb1⟩

theorem byte_in_a (s : ByteArray) (a m b : List UInt8) (h : s.data.toList = a ++ (34 :: (esc m ++ 34 :: b))) (i : Nat) (hi : i < s.size) (ha : i < a.length) : s[i]'hi = a[i] :=
  byte_at s _ h i hi _ (by rw [List.getElem?_append_left ha, List.getElem?_eq_getElem ha])

theorem byte_open (s : ByteArray) (a m b : List UInt8) (h : s.data.toList = a ++ (34 :: (esc m ++ 34 :: b))) (hi : a.length < s.size) : s[a.length]'hi = 34 :=
  byte_at s _ h _ hi _ (by rw [List.getElem?_append_right (Nat.le_refl _)]; simp)

theorem byte_in_b (s : ByteArray) (a m b : List UInt8) (h : s.data.toList = a ++ (34 :: (esc m ++ 34 :: b))) (i k : Nat) (hi : i < s.size) (hk : k < b.length) (he : i = a.length + 2 + (esc m).length + k) : s[i]'hi = b[k] := by
  subst he
  refine byte_at s _ h _ hi _ ?_
  rw [List.getElem?_append_right (by omega)]
  rw [show a.length + 2 + (esc m).length + k - a.length = ((esc m).length + k + 1) + 1 from by omega, List.getElem?_cons_succ, List.getElem?_append_right (by omega)]
  rw [show (esc m).length + k + 1 - (esc m).length = k + 1 from by omega, List.getElem?_cons_succ, List.getElem?_eq_getElem hk]

theorem lt_block {w : World} {b : Nat} {o : Obj} (h : w.heap[b]? = some o) : b < w.heap.size := by
  rcases Nat.lt_or_ge b w.heap.size with h' | h'
  · exact h'
  · simp [Array.getElem?_eq_none h'] at h

/-- A builder stays one while others only lay new blocks. -/
theorem builder_below {T e : TypeId} {B b : Nat} {p : Value} {bs : List Value} {w w' : World} (h : Lib.BuilderAtF T e B b p bs w) (hb : Below w.heap.size w w') : Lib.BuilderAtF T e B b p bs w' := by
  obtain ⟨h1, v, h2, ⟨h3, h4⟩, h5⟩ := h
  refine ⟨h1, v, (hb.block b (lt_block h2)).trans h2, ⟨h3, ?_⟩, h5⟩
  rcases h4 with h4 | ⟨g, cap, cur, fz, rfl, hg, hh, rest⟩
  · exact Or.inl h4
  · exact Or.inr ⟨g, cap, cur, fz, rfl, hg, (hb.block g (lt_block hh)).trans hh, rest⟩

theorem isBuilder_below {T e : TypeId} {B b : Nat} {bs : List Value} {w w' : World} (h : Lib.IsBuilderF T e B b bs w) (hb : Below w.heap.size w w') : Lib.IsBuilderF T e B b bs w' :=
  h.elim (fun x => Or.inl (builder_below x hb)) (fun x => Or.inr (builder_below x hb))

/-- What the builder holds, and where the reader stands. -/
def At (a m b : List UInt8) (i : Nat) (acc : List UInt8) : Prop :=
  (i ≤ a.length ∧ acc = a.take i) ∨ ∃ k, k ≤ b.length ∧ i = a.length + 2 + (esc m).length + k ∧ acc = a ++ m ++ b.take k

theorem At.len {a m b : List UInt8} {i : Nat} {acc : List UInt8} (h : At a m b i acc) : acc.length ≤ a.length + m.length + b.length := by
  rcases h with ⟨_, rfl⟩ | ⟨k, hk, _, rfl⟩
  · simp; omega
  · simp; omega

set_option maxHeartbeats 4000000 in
set_option maxRecDepth 100000 in
theorem words_many (s : ByteArray) (a m b : List UInt8) (h : s.data.toList = a ++ (34 :: (esc m ++ 34 :: b))) (ha : hasQ a = false) (hb : hasQ b = false) (hne : a ≠ [] ∨ b ≠ [])
    (hla : a.length ≤ 262144) (hlm : m.length ≤ 262144) (hlb : b.length ≤ 262144) (w : World) :
    Calls Try.prog 16 #[.string s] w fun e w' => e = .returned (.string ⟨(a ++ m ++ b).toArray⟩) ∧ Below w.heap.size w w' := by
  have hpos : ¬ idx s.data.toList 34 < 0 := by
    intro hn; apply idx_neg hn; rw [h]; simp
  have HZ : Hid (s.size = a.length + 2 + (esc m).length + b.length) := by unfold Hid; rw [size_of s _ h]; simp; omega
  have hem := (esc_len m).2
  have hp0 : 0 < s.size := by have := HZ.out; omega
  have hs : s.size ≤ 2097152 := by have := HZ.out; omega
  have H : Hid (s.data.toList = a ++ (34 :: (esc m ++ 34 :: b))) := h
  have H2 : Hid (s.data.toList = (a ++ [34]) ++ (esc m ++ 34 :: b)) := by unfold Hid; rw [h]; simp
  have HQa : Hid (hasQ a = false) := ha
  have HQb : Hid (hasQ b = false) := hb
  clear h ha hb
  have start : (s[0].toNat = 34 ∧ a.length = 0 ∧ ((1 + ((esc m).length : Int)) == (s.size : Int) - 1) = false) ∨ ((s[0].toNat : Int) == 34) = false := by
    by_cases h0 : a = []
    · left
      have hb0 : b ≠ [] := by rcases hne with h | h; exact absurd h0 h; exact h
      have hbl : 0 < b.length := List.length_pos_iff.2 hb0
      have e := byte_open s a m b H.out (by subst h0; exact hp0)
      subst h0
      refine ⟨?_, rfl, beq_eq_false_iff_ne.2 (by have := HZ.out; simp at this; omega)⟩
      have e' : s[0] = 34 := e
      rw [e']; rfl
    · right
      have hal : 0 < a.length := List.length_pos_iff.2 h0
      refine beq_eq_false_iff_ne.2 ?_
      rw [byte_in_a s a m b H.out 0 hp0 hal]
      exact notq HQa.out 0 hal
  clear hne
  rcases start with ⟨h0, h1, h2⟩ | h0
  · have ha0 : a = [] := List.length_eq_zero_iff.1 h1
    have H3 : Hid (s.data.toList = ([] ++ [34]) ++ (esc m ++ 34 :: b)) := by unfold Hid; rw [H.out, ha0]; rfl
    clear ha0 h1
    go_enter Try.func16, Try.ntmps16
    go_wp2_with (first | (go_at_call 18; refine (index_walk _ 34 _).mono ?_; rintro e w' ⟨rfl, rfl⟩) | (go_at_call 19; refine (closing_walk s [] m b (by unfold maxLen; omega) H3.out _ rfl _).mono ?_; rintro e w' ⟨rfl, rfl⟩))
    clear h0 h2 H3
    refine (Try.Builder_Grow_fresh w.heap.size w.heap.size s.size _ (Nat.le_refl _) (heap_alloc_new w _) (by simp) (by omega)).mono ?_
    rintro e w1 ⟨rfl, hat, hb1⟩
    have hb0 : Below w.heap.size w w1 := ((Below.refl _ w).alloc (Nat.le_refl _) _).trans hb1
    clear hb1
    go_wp2
    go_loopw [4] (fun t wr => ∃ (i : Nat) (acc : List UInt8), At a m b i acc ∧ t = .int .i64 i ∧ Lib.IsBuilderF 39 5 w.heap.size w.heap.size (Lib.byteCells acc) wr ∧ Below w.heap.size w wr) (fun t _ => s.size - (intOf t).toNat)
    case atStart => exact ⟨0, [], Or.inl ⟨Nat.zero_le _, rfl⟩, rfl, Lib.IsBuilderF.of (Or.inr hat), hb0⟩
    case round =>
      clear hat hb0
      obtain ⟨i, acc, hA, rfl, hB, hbel⟩ := hrel
      have hbs := hbel.size
      have hml : (Lib.byteCells acc).length + 1 ≤ 140737488355328 := by
        rw [Lib.byteCells_length]; have := hA.len; omega
      rcases hA with ⟨hi, hacc⟩ | ⟨k, hk, hi, hacc⟩
      · by_cases hlt : i < a.length
        · -- a byte of the first plain word
          have his : i < s.size := by have := HZ.out; omega
          have hby := byte_in_a s a m b H.out i his hlt
          have hnq : ¬ (s[i].toNat : Int) = 34 := by rw [hby]; exact notq HQa.out i hlt
          have HC : Hid (Lib.byteCells acc ++ [.int .u8 s[i].toNat] = Lib.byteCells (a.take (i + 1))) := by
            unfold Hid; rw [hby, hacc, take_snoc a i hlt, Lib.byteCells_append]; rfl
          clear hby hacc
          go_wp2_with (go_at_call 22; refine (Try.Builder_WriteByte_k w.heap.size w.heap.size _ _ _ hB hml hbs).mono ?_)
          rintro e w2 ⟨rfl, g1, g2, _⟩
          rw [HC.out] at g1
          go_wp2
          go_roundw
          case rel => exact ⟨i + 1, _, Or.inl ⟨by omega, rfl⟩, by go_num, Or.inr g1, hbel.trans g2⟩
          case measure => simp [intOf]; omega
        · -- the opening quote
          have hia : i = a.length := by omega
          subst hia
          have his : a.length < s.size := by have := HZ.out; omega
          have hby := byte_open s a m b H.out his
          have hn : s[a.length].toNat = 34 := by rw [hby]; rfl
          have hsl : a.length + 1 + (esc m).length ≤ s.size := by have := HZ.out; omega
          have HC : Hid (Lib.byteCells acc ++ Lib.strCells ⟨m.toArray⟩ = Lib.byteCells (a ++ m ++ b.take 0)) := by
            unfold Hid; rw [hacc]; simp [Lib.strCells, Lib.byteCells]
          have hml2 : (Lib.byteCells acc).length + (⟨m.toArray⟩ : ByteArray).size ≤ 140737488355328 := by
            have e : (⟨m.toArray⟩ : ByteArray).size = m.length := by simp [ByteArray.size]
            rw [Lib.byteCells_length, e, hacc]; simp; omega
          clear hby hacc hlt hi
          go_wp2_with (first | (go_at_call 19; refine (closing_walk s a m b (by unfold maxLen; omega) H2.out _ rfl _).mono ?_; rintro e w' ⟨rfl, rfl⟩))
          refine (unquote_walk (s.extract (a.length + 1) (a.length + 1 + (esc m).length)) m (cut_bytes s (a ++ [34]) (esc m) (34 :: b) H2.out _ _ (by simp) (by simp)) (Nat.le_trans (cut_size _ _ _) (by omega)) _).mono ?_
          rintro e w2 ⟨rfl, hb2⟩
          have hB2 := isBuilder_below hB hb2
          have hbel2 := hbel.trans (hb2.mono hbs)
          have hbs2 := hbel2.size
          clear hB hb2 hbel hbs
          go_wp2_with (go_at_call 23; refine (Try.Builder_WriteString_k w.heap.size w.heap.size _ _ _ hB2 hml2 hbs2).mono ?_)
          rintro e w3 ⟨rfl, g1, g2, _⟩
          rw [HC.out] at g1
          go_wp2
          go_roundw
          case rel => exact ⟨a.length + 2 + (esc m).length, _, Or.inr ⟨0, Nat.zero_le _, rfl, rfl⟩, by go_num, Or.inr g1, hbel2.trans g2⟩
          case measure => simp [intOf]; omega
      · by_cases hlt : k < b.length
        · -- a byte of the second plain word
          have his : i < s.size := by have := HZ.out; omega
          have hby := byte_in_b s a m b H.out i k his hlt hi
          have hnq : ¬ (s[i].toNat : Int) = 34 := by rw [hby]; exact notq HQb.out k hlt
          have HC : Hid (Lib.byteCells acc ++ [.int .u8 s[i].toNat] = Lib.byteCells (a ++ m ++ b.take (k + 1))) := by
            unfold Hid; rw [hby, hacc, take_snoc b k hlt, ← List.append_assoc, Lib.byteCells_append (a ++ m ++ b.take k)]; rfl
          have HI : Hid (i + 1 = a.length + 2 + (esc m).length + (k + 1)) := by unfold Hid; omega
          clear hby hacc hi
          go_wp2_with (go_at_call 22; refine (Try.Builder_WriteByte_k w.heap.size w.heap.size _ _ _ hB hml hbs).mono ?_)
          rintro e w2 ⟨rfl, g1, g2, _⟩
          rw [HC.out] at g1
          go_wp2
          go_roundw
          case rel => exact ⟨i + 1, _, Or.inr ⟨k + 1, hlt, HI.out, rfl⟩, by go_num, Or.inr g1, hbel.trans g2⟩
          case measure => simp [intOf]; omega
        · -- the end
          have hge : ¬ i < s.size := by have := HZ.out; omega
          have HE : Hid (acc = a ++ m ++ b) := by unfold Hid; rw [hacc, List.take_of_length_le (by omega)]
          clear hi hacc
          go_wp2_with (go_at_call 24; refine (Try.Builder_String_any_k w.heap.size w.heap.size acc _ hB hbs).mono ?_)
          rintro e w2 ⟨rfl, _, g2, _⟩
          go_wp2
          go_ret
          exact ⟨by rw [← HE.out]; rfl, hbel.trans g2⟩
  · go_enter Try.func16, Try.ntmps16
    go_wp2_with (first | (go_at_call 18; refine (index_walk _ 34 _).mono ?_; rintro e w' ⟨rfl, rfl⟩))
    clear h0
    refine (Try.Builder_Grow_fresh w.heap.size w.heap.size s.size _ (Nat.le_refl _) (heap_alloc_new w _) (by simp) (by omega)).mono ?_
    rintro e w1 ⟨rfl, hat, hb1⟩
    have hb0 : Below w.heap.size w w1 := ((Below.refl _ w).alloc (Nat.le_refl _) _).trans hb1
    clear hb1
    go_wp2
    go_loopw [4] (fun t wr => ∃ (i : Nat) (acc : List UInt8), At a m b i acc ∧ t = .int .i64 i ∧ Lib.IsBuilderF 39 5 w.heap.size w.heap.size (Lib.byteCells acc) wr ∧ Below w.heap.size w wr) (fun t _ => s.size - (intOf t).toNat)
    case atStart => exact ⟨0, [], Or.inl ⟨Nat.zero_le _, rfl⟩, rfl, Lib.IsBuilderF.of (Or.inr hat), hb0⟩
    case round =>
      clear hat hb0
      obtain ⟨i, acc, hA, rfl, hB, hbel⟩ := hrel
      have hbs := hbel.size
      have hml : (Lib.byteCells acc).length + 1 ≤ 140737488355328 := by
        rw [Lib.byteCells_length]; have := hA.len; omega
      rcases hA with ⟨hi, hacc⟩ | ⟨k, hk, hi, hacc⟩
      · by_cases hlt : i < a.length
        · -- a byte of the first plain word
          have his : i < s.size := by have := HZ.out; omega
          have hby := byte_in_a s a m b H.out i his hlt
          have hnq : ¬ (s[i].toNat : Int) = 34 := by rw [hby]; exact notq HQa.out i hlt
          have HC : Hid (Lib.byteCells acc ++ [.int .u8 s[i].toNat] = Lib.byteCells (a.take (i + 1))) := by
            unfold Hid; rw [hby, hacc, take_snoc a i hlt, Lib.byteCells_append]; rfl
          clear hby hacc
          go_wp2_with (go_at_call 22; refine (Try.Builder_WriteByte_k w.heap.size w.heap.size _ _ _ hB hml hbs).mono ?_)
          rintro e w2 ⟨rfl, g1, g2, _⟩
          rw [HC.out] at g1
          go_wp2
          go_roundw
          case rel => exact ⟨i + 1, _, Or.inl ⟨by omega, rfl⟩, by go_num, Or.inr g1, hbel.trans g2⟩
          case measure => simp [intOf]; omega
        · -- the opening quote
          have hia : i = a.length := by omega
          subst hia
          have his : a.length < s.size := by have := HZ.out; omega
          have hby := byte_open s a m b H.out his
          have hn : s[a.length].toNat = 34 := by rw [hby]; rfl
          have hsl : a.length + 1 + (esc m).length ≤ s.size := by have := HZ.out; omega
          have HC : Hid (Lib.byteCells acc ++ Lib.strCells ⟨m.toArray⟩ = Lib.byteCells (a ++ m ++ b.take 0)) := by
            unfold Hid; rw [hacc]; simp [Lib.strCells, Lib.byteCells]
          have hml2 : (Lib.byteCells acc).length + (⟨m.toArray⟩ : ByteArray).size ≤ 140737488355328 := by
            have e : (⟨m.toArray⟩ : ByteArray).size = m.length := by simp [ByteArray.size]
            rw [Lib.byteCells_length, e, hacc]; simp; omega
          clear hby hacc hlt hi
          go_wp2_with (first | (go_at_call 19; refine (closing_walk s a m b (by unfold maxLen; omega) H2.out _ rfl _).mono ?_; rintro e w' ⟨rfl, rfl⟩))
          refine (unquote_walk (s.extract (a.length + 1) (a.length + 1 + (esc m).length)) m (cut_bytes s (a ++ [34]) (esc m) (34 :: b) H2.out _ _ (by simp) (by simp)) (Nat.le_trans (cut_size _ _ _) (by omega)) _).mono ?_
          rintro e w2 ⟨rfl, hb2⟩
          have hB2 := isBuilder_below hB hb2
          have hbel2 := hbel.trans (hb2.mono hbs)
          have hbs2 := hbel2.size
          clear hB hb2 hbel hbs
          go_wp2_with (go_at_call 23; refine (Try.Builder_WriteString_k w.heap.size w.heap.size _ _ _ hB2 hml2 hbs2).mono ?_)
          rintro e w3 ⟨rfl, g1, g2, _⟩
          rw [HC.out] at g1
          go_wp2
          go_roundw
          case rel => exact ⟨a.length + 2 + (esc m).length, _, Or.inr ⟨0, Nat.zero_le _, rfl, rfl⟩, by go_num, Or.inr g1, hbel2.trans g2⟩
          case measure => simp [intOf]; omega
      · by_cases hlt : k < b.length
        · -- a byte of the second plain word
          have his : i < s.size := by have := HZ.out; omega
          have hby := byte_in_b s a m b H.out i k his hlt hi
          have hnq : ¬ (s[i].toNat : Int) = 34 := by rw [hby]; exact notq HQb.out k hlt
          have HC : Hid (Lib.byteCells acc ++ [.int .u8 s[i].toNat] = Lib.byteCells (a ++ m ++ b.take (k + 1))) := by
            unfold Hid; rw [hby, hacc, take_snoc b k hlt, ← List.append_assoc, Lib.byteCells_append (a ++ m ++ b.take k)]; rfl
          have HI : Hid (i + 1 = a.length + 2 + (esc m).length + (k + 1)) := by unfold Hid; omega
          clear hby hacc hi
          go_wp2_with (go_at_call 22; refine (Try.Builder_WriteByte_k w.heap.size w.heap.size _ _ _ hB hml hbs).mono ?_)
          rintro e w2 ⟨rfl, g1, g2, _⟩
          rw [HC.out] at g1
          go_wp2
          go_roundw
          case rel => exact ⟨i + 1, _, Or.inr ⟨k + 1, hlt, HI.out, rfl⟩, by go_num, Or.inr g1, hbel.trans g2⟩
          case measure => simp [intOf]; omega
        · -- the end
          have hge : ¬ i < s.size := by have := HZ.out; omega
          have HE : Hid (acc = a ++ m ++ b) := by unfold Hid; rw [hacc, List.take_of_length_le (by omega)]
          clear hi hacc
          go_wp2_with (go_at_call 24; refine (Try.Builder_String_any_k w.heap.size w.heap.size acc _ hB hbs).mono ?_)
          rintro e w2 ⟨rfl, _, g2, _⟩
          go_wp2
          go_ret
          exact ⟨by rw [← HE.out]; rfl, hbel.trans g2⟩

theorem zz_walk (s : ByteArray) (a m b : List UInt8) (h : s.data.toList = a ++ (34 :: (esc m ++ 34 :: b))) (ha : hasQ a = false) (hb : hasQ b = false)
    (hla : a.length ≤ 262144) (hlm : m.length ≤ 262144) (hlb : b.length ≤ 262144) (w : World) :
    Calls Try.prog 8 #[.string s] w fun e w' => e = .returned (.string ⟨(a ++ m ++ b).toArray⟩) ∧ Below w.heap.size w w' := by
  have K : ∀ w : World, Calls Try.prog 16 #[.string s] w fun e w' => e = .returned (.string ⟨(a ++ m ++ b).toArray⟩) ∧ Below w.heap.size w w' := fun w => by
    by_cases hne : a ≠ [] ∨ b ≠ []
    · exact words_many s a m b h ha hb hne hla hlm hlb w
    · have ha0 : a = [] := by
        by_cases e : a = []
        · exact e
        · exact absurd (Or.inl e) hne
      have hb0 : b = [] := by
        by_cases e : b = []
        · exact e
        · exact absurd (Or.inr e) hne
      subst ha0 hb0
      have hs : s.size ≤ 1048576 := by
        have := (esc_len m).2
        rw [size_of s _ h]; simp; omega
      simpa using words_one s m h hs w
  clear h ha hb
  have HK := hidden K
  clear K
  go_enter Try.func8, Try.ntmps8
  go_wp2_with (go_at_call 16; refine (HK.out _).mono ?_; rintro e w1 ⟨rfl, hb1⟩)
  go_ret
  exact ⟨by rw [List.append_assoc]; rfl, hb1⟩
end Go.Proofs.Qxb6000075a
