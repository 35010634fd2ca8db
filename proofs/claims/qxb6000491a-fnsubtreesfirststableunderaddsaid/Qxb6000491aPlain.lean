/-
  PLAIN: constraints, the two indexes, and the first constraint that covers a mailbox. No Go in sight.
-/
import Derived.Laws.Strings
namespace Go.Proofs.Qxb6000491a

/-- A constraint: its text, its local-part, its domain. -/
structure Con where
  t : ByteArray
  l : ByteArray
  d : ByteArray

def eqB (a b : ByteArray) : Bool := a.toList == b.toList
def nilB (a : ByteArray) : Bool := a.toList.isEmpty
def dotted (d : ByteArray) : Bool := d.data.toList.head? == some 46
def dots (d : ByteArray) : Nat := d.data.toList.count 46
def sufB (m d : ByteArray) : Bool := d.data.toList.isSuffixOf m.data.toList

theorem toList_inj {a b : ByteArray} (h : a.toList = b.toList) : a = b := by
  rw [ByteArray.toList_eq, ByteArray.toList_eq] at h
  cases a; cases b
  simp only [ByteArray.mk.injEq]
  exact Array.ext' h

theorem eqB_iff {a b : ByteArray} : eqB a b = true ↔ a = b := by
  unfold eqB
  rw [beq_iff_eq]
  exact ⟨toList_inj, fun h => by rw [h]⟩

theorem eqB_self (a : ByteArray) : eqB a a = true := eqB_iff.2 rfl

/-- What a constraint covers. -/
def covers (c : Con) (ml md : ByteArray) : Bool :=
  if nilB c.l then (if dotted c.d then sufB md c.d else eqB c.d md) else (eqB c.l ml && eqB c.d md)

def f1 (cs : List Con) (l d : ByteArray) : Option Nat := cs.findIdx? (fun c => !nilB c.l && eqB c.l l && eqB c.d d)
def f2 (cs : List Con) (d : ByteArray) : Option Nat := cs.findIdx? (fun c => nilB c.l && eqB c.d d)

def labelsOf (c : Con) : Nat := if nilB c.l && dotted c.d then dots c.d else 0
def labels (cs : List Con) : Nat := cs.foldl (fun m c => max m (labelsOf c)) 0

theorem labels_snoc (cs : List Con) (c : Con) : labels (cs ++ [c]) = max (labels cs) (labelsOf c) := by
  unfold labels; rw [List.foldl_append]; rfl

theorem fold_ge (cs : List Con) (m : Nat) : m ≤ cs.foldl (fun m c => max m (labelsOf c)) m := by
  induction cs generalizing m with
  | nil => exact Nat.le_refl _
  | cons c t ih => exact Nat.le_trans (Nat.le_max_left _ _) (ih _)

theorem fold_mem (cs : List Con) (m : Nat) : ∀ c ∈ cs, labelsOf c ≤ cs.foldl (fun m c => max m (labelsOf c)) m := by
  induction cs generalizing m with
  | nil => intro c hc; cases hc
  | cons a t ih =>
    intro c hc
    rcases List.mem_cons.1 hc with rfl | h
    · exact Nat.le_trans (Nat.le_max_right _ _) (fold_ge t _)
    · exact ih _ c h

theorem labels_mem {cs : List Con} {c : Con} (h : c ∈ cs) : labelsOf c ≤ labels cs := fold_mem cs 0 c h

/-! ### The two indexes behind one constraint more -/

theorem f1_snoc (cs : List Con) (c : Con) (l d : ByteArray) :
    f1 (cs ++ [c]) l d = (f1 cs l d).or (if !nilB c.l && eqB c.l l && eqB c.d d then some cs.length else none) := by
  unfold f1
  rw [List.findIdx?_append]
  congr 1
  simp only [List.findIdx?_cons, List.findIdx?_nil]
  split <;> simp

theorem f2_snoc (cs : List Con) (c : Con) (d : ByteArray) :
    f2 (cs ++ [c]) d = (f2 cs d).or (if nilB c.l && eqB c.d d then some cs.length else none) := by
  unfold f2
  rw [List.findIdx?_append]
  congr 1
  simp only [List.findIdx?_cons, List.findIdx?_nil]
  split <;> simp

theorem f1_nil {cs : List Con} {l d : ByteArray} (h : nilB l = true) : f1 cs l d = none := by
  unfold f1
  rw [List.findIdx?_eq_none_iff]
  intro c _
  by_cases e : eqB c.l l = true
  · rw [eqB_iff.1 e, h]; rfl
  · simp [e]

theorem f1_some {cs : List Con} {l d : ByteArray} {i : Nat} (h : f1 cs l d = some i) : ∃ hi : i < cs.length, nilB cs[i].l = false ∧ cs[i].l = l ∧ cs[i].d = d := by
  unfold f1 at h
  rw [List.findIdx?_eq_some_iff_getElem] at h
  obtain ⟨hi, hp, _⟩ := h
  simp only [Bool.and_eq_true, Bool.not_eq_true'] at hp
  exact ⟨hi, hp.1.1, eqB_iff.1 hp.1.2, eqB_iff.1 hp.2⟩

theorem f2_some {cs : List Con} {d : ByteArray} {i : Nat} (h : f2 cs d = some i) : ∃ hi : i < cs.length, nilB cs[i].l = true ∧ cs[i].d = d := by
  unfold f2 at h
  rw [List.findIdx?_eq_some_iff_getElem] at h
  obtain ⟨hi, hp, _⟩ := h
  simp only [Bool.and_eq_true] at hp
  exact ⟨hi, hp.1, eqB_iff.1 hp.2⟩

theorem f1_has {cs : List Con} {l d : ByteArray} {i : Nat} (hi : i < cs.length) (h1 : nilB cs[i].l = false) (h2 : cs[i].l = l) (h3 : cs[i].d = d) : ∃ j, f1 cs l d = some j ∧ j ≤ i := by
  cases h : f1 cs l d with
  | none =>
    unfold f1 at h
    rw [List.findIdx?_eq_none_iff] at h
    have := h cs[i] (List.getElem_mem hi)
    rw [h1, eqB_iff.2 h2, eqB_iff.2 h3] at this
    cases this
  | some j =>
    refine ⟨j, rfl, ?_⟩
    unfold f1 at h
    rw [List.findIdx?_eq_some_iff_getElem] at h
    obtain ⟨_, _, hn⟩ := h
    rcases Nat.lt_or_ge i j with hlt | hge
    · have := hn i hlt
      rw [h1, eqB_iff.2 h2, eqB_iff.2 h3] at this
      exact absurd rfl this
    · exact hge

theorem f2_has {cs : List Con} {d : ByteArray} {i : Nat} (hi : i < cs.length) (h1 : nilB cs[i].l = true) (h3 : cs[i].d = d) : ∃ j, f2 cs d = some j ∧ j ≤ i := by
  cases h : f2 cs d with
  | none =>
    unfold f2 at h
    rw [List.findIdx?_eq_none_iff] at h
    have := h cs[i] (List.getElem_mem hi)
    rw [h1, eqB_iff.2 h3] at this
    cases this
  | some j =>
    refine ⟨j, rfl, ?_⟩
    unfold f2 at h
    rw [List.findIdx?_eq_some_iff_getElem] at h
    obtain ⟨_, _, hn⟩ := h
    rcases Nat.lt_or_ge i j with hlt | hge
    · have := hn i hlt
      rw [h1, eqB_iff.2 h3] at this
      exact absurd rfl this
    · exact hge

/-! ### The search -/

/-- The suffix of a domain from place q on. -/
def tail (m : ByteArray) (q : Nat) : ByteArray := m.extract q m.size

theorem tail_list (m : ByteArray) (q : Nat) : (tail m q).data.toList = m.data.toList.drop q := by
  unfold tail
  rw [ByteArray.data_extract, Array.toList_extract]
  simp [List.extract_eq_take_drop]
  rw [List.take_of_length_le]
  simp

/-- What the search has found: 'best' among the indexes looked up so far, the suffixes from place k on among them. -/
structure Found (cs : List Con) (ml md : ByteArray) (k best : Nat) : Prop where
  le : best ≤ cs.length
  cov : ∀ h : best < cs.length, covers cs[best] ml md = true
  box : ∀ i, f1 cs ml md = some i → best ≤ i
  own : ∀ i, f2 cs md = some i → best ≤ i
  suf : ∀ q, k ≤ q → q < md.data.toList.length → md.data.toList[q]? = some 46 → ∀ j, f2 cs (tail md q) = some j → best ≤ j

theorem cov_box {cs : List Con} {ml md : ByteArray} {i : Nat} (h : f1 cs ml md = some i) : ∃ hi : i < cs.length, covers cs[i] ml md = true := by
  obtain ⟨hi, h1, h2, h3⟩ := f1_some h
  refine ⟨hi, ?_⟩
  unfold covers
  rw [h1, h2, h3, eqB_self, eqB_self]; rfl

theorem suf_self (m : ByteArray) : sufB m m = true := by
  unfold sufB; rw [List.isSuffixOf_iff_suffix]; exact List.suffix_rfl

theorem cov_own {cs : List Con} {ml md : ByteArray} {i : Nat} (h : f2 cs md = some i) : ∃ hi : i < cs.length, covers cs[i] ml md = true := by
  obtain ⟨hi, h1, h3⟩ := f2_some h
  refine ⟨hi, ?_⟩
  unfold covers
  rw [h1, h3, suf_self, eqB_self]
  simp

theorem tail_dotted {md : ByteArray} {q : Nat} (h : md.data.toList[q]? = some 46) : dotted (tail md q) = true := by
  unfold dotted
  rw [tail_list, List.head?_drop, h]; rfl

theorem cov_suf {cs : List Con} {ml md : ByteArray} {q j : Nat} (hq : md.data.toList[q]? = some 46) (h : f2 cs (tail md q) = some j) : ∃ hi : j < cs.length, covers cs[j] ml md = true := by
  obtain ⟨hi, h1, h3⟩ := f2_some h
  refine ⟨hi, ?_⟩
  unfold covers
  rw [h1, h3, tail_dotted hq]
  simp only [if_true]
  unfold sufB
  rw [List.isSuffixOf_iff_suffix, tail_list]
  exact List.drop_suffix _ _

/-- The end of the search: whatever is covered earlier would have been found. -/
theorem Found.done {cs : List Con} {ml md : ByteArray} {k best : Nat} (h : Found cs ml md k best) (hk : k = 0 ∨ ∀ q, q < k → md.data.toList[q]? = some 46 → labels cs < dots (tail md q)) :
    ∀ i (hi : i < cs.length), covers cs[i] ml md = true → best ≤ i := by
  intro i hi hc
  unfold covers at hc
  by_cases h1 : nilB cs[i].l = true
  · rw [h1] at hc
    simp only [if_true] at hc
    by_cases h2 : dotted cs[i].d = true
    · rw [h2] at hc
      simp only [if_true] at hc
      unfold sufB at hc
      rw [List.isSuffixOf_iff_suffix] at hc
      obtain ⟨p, hp⟩ := hc
      have hq : md.data.toList[p.length]? = some 46 := by
        rw [← hp, List.getElem?_append_right (Nat.le_refl _), Nat.sub_self, ← List.head?_eq_getElem?]
        unfold dotted at h2
        exact beq_iff_eq.1 h2
      have hd : cs[i].d = tail md p.length := by
        apply toList_inj
        rw [ByteArray.toList_eq, ByteArray.toList_eq, tail_list, ← hp]; simp
      obtain ⟨j, hj, hji⟩ := f2_has hi h1 hd
      have hlt : p.length < md.data.toList.length := (List.getElem?_eq_some_iff.1 hq).1
      rcases Nat.lt_or_ge p.length k with hlt2 | hge
      · rcases hk with hk | hk
        · omega
        · have hb := hk p.length hlt2 hq
          have hm : labelsOf cs[i] ≤ labels cs := labels_mem (List.getElem_mem hi)
          unfold labelsOf at hm
          rw [h1, h2, ← hd] at *
          simp at hm
          omega
      · exact Nat.le_trans (h.suf _ hge hlt hq j hj) hji
    · have h2' : dotted cs[i].d = false := by simpa using h2
      rw [h2'] at hc
      simp only [Bool.false_eq_true, if_false] at hc
      obtain ⟨j, hj, hji⟩ := f2_has hi h1 (eqB_iff.1 hc)
      exact Nat.le_trans (h.own j hj) hji
  · have h1' : nilB cs[i].l = false := by simpa using h1
    rw [h1'] at hc
    simp only [Bool.false_eq_true, if_false, Bool.and_eq_true] at hc
    obtain ⟨j, hj, hji⟩ := f1_has hi h1' (eqB_iff.1 hc.1) (eqB_iff.1 hc.2)
    exact Nat.le_trans (h.box j hj) hji

/-- The first constraint that covers the mailbox; how many there are, where none does. -/
def firstIdx (cs : List Con) (ml md : ByteArray) : Nat := cs.findIdx (fun c => covers c ml md)

theorem firstIdx_le (cs : List Con) (ml md : ByteArray) : firstIdx cs ml md ≤ cs.length := List.findIdx_le_length

theorem firstIdx_cov {cs : List Con} {ml md : ByteArray} (h : firstIdx cs ml md < cs.length) : covers cs[firstIdx cs ml md] ml md = true :=
  List.findIdx_getElem (p := fun c => covers c ml md) (w := h)

theorem firstIdx_before {cs : List Con} {ml md : ByteArray} {i : Nat} (h : i < firstIdx cs ml md) (hi : i < cs.length) : covers cs[i] ml md = false := by
  have := List.not_of_lt_findIdx (p := fun c => covers c ml md) h
  simpa using this

theorem Found.first {cs : List Con} {ml md : ByteArray} {k best : Nat} (h : Found cs ml md k best) (hk : k = 0 ∨ ∀ q, q < k → md.data.toList[q]? = some 46 → labels cs < dots (tail md q)) : best = firstIdx cs ml md := by
  have hd := h.done hk
  rcases Nat.lt_trichotomy best (firstIdx cs ml md) with hlt | heq | hgt
  · have hb : best < cs.length := Nat.lt_of_lt_of_le hlt (firstIdx_le _ _ _)
    have h1 := h.cov hb
    rw [firstIdx_before hlt hb] at h1; cases h1
  · exact heq
  · have hf : firstIdx cs ml md < cs.length := Nat.lt_of_lt_of_le hgt h.le
    have := hd _ hf (firstIdx_cov hf)
    omega

theorem firstIdx_snoc_lt {cs : List Con} {ml md : ByteArray} (c : Con) (h : firstIdx cs ml md < cs.length) : firstIdx (cs ++ [c]) ml md = firstIdx cs ml md := by
  unfold firstIdx at *
  rw [List.findIdx_append, if_pos h]

theorem firstIdx_snoc_eq {cs : List Con} {ml md : ByteArray} (c : Con) (h : ¬ firstIdx cs ml md < cs.length) : firstIdx (cs ++ [c]) ml md = if covers c ml md then cs.length else cs.length + 1 := by
  unfold firstIdx at *
  rw [List.findIdx_append, if_neg h]
  simp only [List.findIdx_cons, List.findIdx_nil]
  cases covers c ml md <;> simp <;> omega

end Go.Proofs.Qxb6000491a
