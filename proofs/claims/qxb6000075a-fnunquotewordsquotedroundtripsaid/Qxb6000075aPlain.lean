/-
  PLAIN LISTS: what quoting a word does, and where the bytes of a quoted word stand. No Go in sight.
-/
namespace Go.Proofs.Qxb6000075a

/-- One byte as a quoted string bears it: a double quote or a backslash gets a backslash ahead. -/
def esc1 (c : UInt8) : List UInt8 := if c = 34 ∨ c = 92 then [92, c] else [c]

def esc : List UInt8 → List UInt8
  | [] => []
  | c :: t => esc1 c ++ esc t

theorem esc1_pos (c : UInt8) (h : c = 34 ∨ c = 92) : esc1 c = [92, c] := by simp [esc1, h]
theorem esc1_neg (c : UInt8) (h : ¬ (c = 34 ∨ c = 92)) : esc1 c = [c] := by simp [esc1, h]

theorem esc_append (a b : List UInt8) : esc (a ++ b) = esc a ++ esc b := by
  induction a with
  | nil => rfl
  | cons c t ih => simp [esc, ih]

theorem esc1_len (c : UInt8) : 1 ≤ (esc1 c).length ∧ (esc1 c).length ≤ 2 := by
  unfold esc1; split <;> simp

theorem esc_len (l : List UInt8) : l.length ≤ (esc l).length ∧ (esc l).length ≤ 2 * l.length := by
  induction l with
  | nil => simp [esc]
  | cons c t ih => have := esc1_len c; simp [esc]; omega

theorem take_snoc (l : List UInt8) (k : Nat) (h : k < l.length) : l.take (k + 1) = l.take k ++ [l[k]] :=
  List.take_succ_eq_append_getElem h

theorem esc_take_succ (l : List UInt8) (k : Nat) (h : k < l.length) : esc (l.take (k + 1)) = esc (l.take k) ++ esc1 l[k] := by
  rw [take_snoc l k h, esc_append]; simp [esc]

theorem esc_split (l : List UInt8) (k : Nat) (h : k < l.length) : esc l = esc (l.take k) ++ (esc1 l[k] ++ esc (l.drop (k + 1))) := by
  have e : l = l.take k ++ (l[k] :: l.drop (k + 1)) := by simp
  calc esc l = esc (l.take k ++ (l[k] :: l.drop (k + 1))) := by rw [← e]
    _ = _ := by rw [esc_append]; simp [esc]

theorem esc_plain (l : List UInt8) (h : 92 ∉ esc l) : esc l = l := by
  induction l with
  | nil => rfl
  | cons c t ih =>
    simp only [esc, List.mem_append, not_or] at h
    by_cases hc : c = 34 ∨ c = 92
    · rw [esc1_pos c hc] at h; simp at h
    · rw [esc, esc1_neg c hc, ih h.2]; rfl

/-- The byte at the head of the k-th escaped byte. -/
theorem head_at (pre m post : List UInt8) (k : Nat) (h : k < m.length) :
    (pre ++ (esc m ++ post))[pre.length + (esc (m.take k)).length]? = some (if m[k] = 34 ∨ m[k] = 92 then 92 else m[k]) := by
  rw [esc_split m k h]
  rw [List.getElem?_append_right (by omega)]
  have e : pre.length + (esc (m.take k)).length - pre.length = (esc (m.take k)).length := by omega
  rw [e, List.append_assoc, List.getElem?_append_right (Nat.le_refl _)]
  unfold esc1
  split <;> simp

/-- .. and the byte behind it, where it is escaped. -/
theorem second_at (pre m post : List UInt8) (k : Nat) (h : k < m.length) (hs : m[k] = 34 ∨ m[k] = 92) :
    (pre ++ (esc m ++ post))[pre.length + (esc (m.take k)).length + 1]? = some m[k] := by
  rw [esc_split m k h]
  rw [List.getElem?_append_right (by omega)]
  have e : pre.length + (esc (m.take k)).length + 1 - pre.length = (esc (m.take k)).length + 1 := by omega
  rw [e, List.append_assoc, List.getElem?_append_right (by omega)]
  have e2 : (esc (m.take k)).length + 1 - (esc (m.take k)).length = 1 := by omega
  rw [e2, esc1_pos _ hs]
  simp

/-- The byte behind all escaped bytes. -/
theorem close_at (pre m post : List UInt8) : (pre ++ (esc m ++ 34 :: post))[pre.length + (esc m).length]? = some 34 := by
  rw [List.getElem?_append_right (by omega)]
  have e : pre.length + (esc m).length - pre.length = (esc m).length := by omega
  rw [e, List.getElem?_append_right (Nat.le_refl _)]
  simp

theorem esc_take_lt (m : List UInt8) (k : Nat) (h : k < m.length) : (esc (m.take k)).length < (esc m).length := by
  rw [esc_split m k h]
  have := esc1_len m[k]
  simp; omega

theorem esc_take_succ_len (m : List UInt8) (k : Nat) (h : k < m.length) : (esc (m.take (k + 1))).length = (esc (m.take k)).length + if m[k] = 34 ∨ m[k] = 92 then 2 else 1 := by
  rw [esc_take_succ m k h]
  unfold esc1
  split <;> simp

end Go.Proofs.Qxb6000075a
