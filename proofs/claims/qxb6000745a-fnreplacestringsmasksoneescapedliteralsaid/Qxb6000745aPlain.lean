/-
  PLAIN LISTS: collapsing white space; masking string literals. No Go in sight.
-/
namespace Go.Proofs.Qxb6000745a

/-! ### White space -/

def wh (c : UInt8) : Bool := c == 32 || c == 9 || c == 10 || c == 13 || c == 12 || c == 11

/-- Each run of white space as one space; 'b': a run stands open. -/
def col : Bool → List UInt8 → List UInt8
  | b, [] => if b then [32] else []
  | b, c :: t => if wh c then col true t else (if b then [32] else []) ++ c :: col false t

theorem wh32 : wh 32 = true := by decide

theorem col_white (w rest : List UInt8) (b : Bool) (hw : ∀ c ∈ w, wh c = true) (hne : w ≠ []) : col b (w ++ rest) = col true rest := by
  induction w generalizing b with
  | nil => exact absurd rfl hne
  | cons c t ih =>
    have hc := hw c (by simp)
    simp only [List.cons_append, col, hc, if_true]
    by_cases ht : t = []
    · subst ht; rfl
    · exact ih true (fun d hd => hw d (by simp [hd])) ht

theorem col_dark (d rest : List UInt8) (hd : ∀ c ∈ d, wh c = false) : col false (d ++ rest) = d ++ col false rest := by
  induction d with
  | nil => rfl
  | cons c t ih =>
    have hc := hd c (by simp)
    simp [col, hc, ih (fun e he => hd e (by simp [he]))]

theorem col_dark_open (d rest : List UInt8) (hd : ∀ c ∈ d, wh c = false) (hne : d ≠ []) : col true (d ++ rest) = 32 :: (d ++ col false rest) := by
  cases d with
  | nil => exact absurd rfl hne
  | cons c t =>
    have hc := hd c (by simp)
    simp [col, hc, col_dark t rest (fun e he => hd e (by simp [he]))]

theorem col_len (l : List UInt8) (b : Bool) : (col b l).length ≤ l.length + if b then 1 else 0 := by
  induction l generalizing b with
  | nil => cases b <;> simp [col]
  | cons c t ih =>
    unfold col
    split
    · have := ih true; cases b <;> simp at * <;> omega
    · have := ih false; cases b <;> simp at * <;> omega

theorem col_true_ne (l : List UInt8) : col true l ≠ [] := by
  induction l with
  | nil => simp [col]
  | cons c t ih => unfold col; split; exact ih; simp

theorem col_nil (l : List UInt8) : col false l = [] ↔ l = [] := by
  cases l with
  | nil => simp [col]
  | cons c t => unfold col; split; simp [col_true_ne]; simp

theorem col_only (l : List UInt8) (b : Bool) : ∀ c ∈ col b l, wh c = true → c = 32 := by
  induction l generalizing b with
  | nil => cases b <;> simp [col]
  | cons c t ih =>
    unfold col
    split
    · exact ih true
    · rename_i hc
      intro d hd hw
      simp only [List.mem_append, List.mem_cons] at hd
      rcases hd with hd | hd | hd
      · cases b <;> simp at hd; exact hd
      · subst hd; exact absurd hw hc
      · exact ih false d hd hw

/-- No two neighbours are both white. -/
def nn : List UInt8 → Prop
  | [] => True
  | [_] => True
  | c :: d :: t => ¬ (wh c = true ∧ wh d = true) ∧ nn (d :: t)

theorem nn_dark (c : UInt8) (l : List UInt8) (hc : ¬ wh c = true) (h : nn l) : nn (c :: l) := by
  cases l with
  | nil => trivial
  | cons d t => exact ⟨fun e => hc e.1, h⟩

theorem col_nn (l : List UInt8) (b : Bool) : nn (col b l) := by
  induction l generalizing b with
  | nil => cases b <;> simp [col, nn]
  | cons c t ih =>
    unfold col
    split
    · exact ih true
    · rename_i hc
      have h1 := nn_dark c _ hc (ih false)
      cases b
      · simpa using h1
      · exact ⟨fun e => hc e.2, h1⟩

theorem nn_at (l : List UInt8) (h : nn l) : ∀ (i : Nat) (h1 : i + 1 < l.length), ¬ (wh (l[i]'(by omega)) = true ∧ wh l[i + 1] = true) := by
  induction l with
  | nil => intro i h1; simp at h1
  | cons c t ih =>
    intro i h1
    cases t with
    | nil => simp at h1
    | cons d r =>
      cases i with
      | zero => exact h.1
      | succ i => exact ih h.2 i (by simpa using h1)

/-- How many bytes are not white. -/
def dk (l : List UInt8) : Nat := l.countP (fun c => !wh c)

theorem col_dk (l : List UInt8) (b : Bool) : dk (col b l) = dk l := by
  unfold dk
  induction l generalizing b with
  | nil => cases b <;> simp [col, wh32]
  | cons c t ih =>
    unfold col
    split
    · rename_i hc; rw [ih true, List.countP_cons]; simp [hc]
    · rename_i hc; cases b <;> simp [ih false, hc, wh32]

theorem dk_le (l : List UInt8) : dk l ≤ l.length := List.countP_le_length

theorem dk_snoc (l : List UInt8) (c : UInt8) : dk (l ++ [c]) = dk l + if wh c then 0 else 1 := by
  unfold dk; rw [List.countP_append]; cases h : wh c <;> simp [h]

/-! ### The words of a text -/

def seg (l : List UInt8) (i j : Nat) : List UInt8 := (l.drop i).take (j - i)

theorem drop_seg (l : List UInt8) (i j : Nat) (h : i ≤ j) : l.drop i = seg l i j ++ l.drop j := by
  unfold seg
  have : l.drop j = (l.drop i).drop (j - i) := by rw [List.drop_drop]; congr 1; omega
  rw [this, List.take_append_drop]

theorem seg_len (l : List UInt8) (i j : Nat) (h : j ≤ l.length) : (seg l i j).length = j - i := by
  unfold seg; simp; omega

theorem seg_ne (l : List UInt8) (i j : Nat) (h : i < j) (hj : j ≤ l.length) : seg l i j ≠ [] := by
  intro e; have := seg_len l i j hj; rw [e] at this; simp at this; omega

theorem seg_all (l : List UInt8) (i j : Nat) (P : UInt8 → Prop) (hj : j ≤ l.length) (h : ∀ t (ht : t < l.length), i ≤ t → t < j → P l[t]) : ∀ c ∈ seg l i j, P c := by
  intro c hc
  obtain ⟨k, hk, rfl⟩ := List.mem_iff_getElem.1 hc
  have hl := seg_len l i j hj
  have e : (seg l i j)[k]'hk = l[i + k]'(by omega) := by simp [seg]
  rw [e]
  exact h (i + k) (by omega) (by omega) (by omega)

/-- White from i up to j. -/
def whiteOn (l : List UInt8) (i j : Nat) : Prop := ∀ t (ht : t < l.length), i ≤ t → t < j → wh l[t] = true
def darkOn (l : List UInt8) (i j : Nat) : Prop := ∀ t (ht : t < l.length), i ≤ t → t < j → wh l[t] = false

def lead (l : List UInt8) : List UInt8 := match l with | [] => [] | c :: _ => if wh c then [32] else []

/-- Where the word model stands: 'out' written, 'n' words behind it, at place i. -/
def Ok (l out : List UInt8) (n i : Nat) : Prop :=
  (n = 0 ∧ i = 0 ∧ out = lead l) ∨
  (0 < n ∧ n ≤ i ∧ i ≤ l.length ∧ (∀ h : i - 1 < l.length, wh l[i - 1] = false) ∧ (∀ h : i < l.length, wh l[i] = true) ∧ out ++ col false (l.drop i) = col false l)

theorem Ok.len {l out : List UInt8} {n i : Nat} (h : Ok l out n i) : out.length ≤ l.length := by
  rcases h with ⟨_, _, rfl⟩ | ⟨_, _, _, _, _, h⟩
  · cases l with
    | nil => simp [lead]
    | cons c t => unfold lead; dsimp only; split <;> simp
  · have h1 := congrArg List.length h
    have h2 := col_len l false
    simp at h1 h2
    omega

theorem Ok.start (l : List UInt8) : Ok l (lead l) 0 0 := Or.inl ⟨rfl, rfl, rfl⟩

theorem Ok.le {l out : List UInt8} {n i : Nat} (h : Ok l out n i) : n ≤ i ∧ i ≤ l.length := by
  rcases h with ⟨rfl, rfl, _⟩ | ⟨_, h1, h2, _⟩
  · exact ⟨Nat.le_refl _, Nat.zero_le _⟩
  · exact ⟨h1, h2⟩

/-- One word on. -/
theorem Ok.step {l out : List UInt8} {n i j k : Nat} (h : Ok l out n i) (hij : i ≤ j) (hjk : j < k) (hk : k ≤ l.length) (hi : i < l.length) (hw : whiteOn l i j) (hd : darkOn l j k) (hend : ∀ h : k < l.length, wh l[k] = true) :
    Ok l (out ++ (if 0 < n then [32] else []) ++ seg l j k) (n + 1) k := by
  refine Or.inr ⟨by omega, by have := h.le; omega, hk, fun h' => hd _ h' (by omega) (by omega), hend, ?_⟩
  have hsw := seg_all l i j (fun c => wh c = true) (by omega) hw
  have hsd := seg_all l j k (fun c => wh c = false) hk hd
  have hne := seg_ne l j k hjk hk
  have e : l.drop i = seg l i j ++ (seg l j k ++ l.drop k) := by rw [← drop_seg l j k (by omega), ← drop_seg l i j hij]
  rcases h with ⟨rfl, rfl, rfl⟩ | ⟨hn, hni, hil, hb, hwi, hout⟩
  · have e' : l = seg l 0 j ++ (seg l j k ++ l.drop k) := by simpa using e
    by_cases hj : j = 0
    · subst hj
      have hz : seg l 0 0 = [] := by simp [seg]
      rw [hz, List.nil_append] at e'
      have hl : lead l = [] := by
        cases l with
        | nil => rfl
        | cons c t => have := hd 0 (by simp) (Nat.le_refl _) hjk; simp only [List.getElem_cons_zero] at this; simp [lead, this]
      rw [hl]
      simp only [Nat.lt_irrefl, if_false, List.append_nil, List.nil_append]
      conv => rhs; rw [e']
      rw [col_dark _ _ hsd]
    · have hne0 := seg_ne l 0 j (by omega) (by omega)
      have hl : lead l = [32] := by
        cases l with
        | nil => simp at hi
        | cons c t => have := hw 0 (by simp) (Nat.le_refl _) (by omega); simp only [List.getElem_cons_zero] at this; simp [lead, this]
      rw [hl]
      simp only [Nat.lt_irrefl, if_false, List.append_nil]
      conv => rhs; rw [e']
      rw [col_white _ _ _ hsw hne0, col_dark_open _ _ hsd hne]
      simp
  · have hij' : i < j := by
      rcases Nat.lt_or_ge i j with h' | h'
      · exact h'
      · have e1 := hwi hi
        have e2 := hd i hi (by omega) (by omega)
        rw [e1] at e2; cases e2
    have hne0 := seg_ne l i j hij' (by omega)
    rw [← hout, e, col_white _ _ _ hsw hne0, col_dark_open _ _ hsd hne]
    simp [hn]

/-- Nothing but white space is left. -/
theorem Ok.fin {l out : List UInt8} {n i : Nat} (h : Ok l out n i) (h0 : 0 < l.length) (hw : whiteOn l i l.length) :
    out ++ (if 0 < n ∧ wh (l[l.length - 1]'(by omega)) = true then [32] else []) = col false l := by
  have hsw := seg_all l i l.length (fun c => wh c = true) (Nat.le_refl _) hw
  have e : l.drop i = seg l i l.length ++ [] := by rw [drop_seg l i l.length (by have := h.le; omega)]; simp
  rcases h with ⟨rfl, rfl, rfl⟩ | ⟨hn, hni, hil, hb, hwi, hout⟩
  · have hne := seg_ne l 0 l.length h0 (Nat.le_refl _)
    have e' : l = seg l 0 l.length ++ [] := by simpa using e
    have hl : lead l = [32] := by
      cases l with
      | nil => simp at h0
      | cons c t => have := hw 0 (by simp) (Nat.le_refl _) h0; simp only [List.getElem_cons_zero] at this; simp [lead, this]
    rw [hl]
    simp only [Nat.lt_irrefl, false_and, if_false, List.append_nil]
    conv => rhs; rw [e']
    rw [col_white _ _ _ hsw hne]
    rfl
  · rcases Nat.lt_or_ge i l.length with hlt | hge
    · have hne := seg_ne l i l.length hlt (Nat.le_refl _)
      have hlast := hw (l.length - 1) (by omega) (by omega) (by omega)
      rw [← hout, e, col_white _ _ _ hsw hne]
      simp [hn, hlast, col]
    · have hi : i = l.length := by omega
      subst hi
      have hlast := hb (by omega)
      rw [← hout]
      simp [hlast, col]

/-! ### String literals -/

/-- The length of the literal, read from behind its opening quote: what is left, the place, the last pair's place. -/
def sll : List UInt8 → Nat → Nat → Nat
  | [], _, lp => if 0 < lp then lp + 1 else 0
  | [c], j, lp => if c = 39 then j + 1 else if 0 < lp then lp + 1 else 0
  | c :: d :: t, j, lp => if c = 39 then (if d = 39 then sll t (j + 2) j else j + 1) else sll (d :: t) (j + 1) lp

theorem sll_other (c : UInt8) (t : List UInt8) (j lp : Nat) (hc : c ≠ 39) : sll (c :: t) j lp = sll t (j + 1) lp := by
  cases t with
  | nil => simp [sll, hc]
  | cons d r => rw [sll, if_neg hc]

theorem sll_pair (t : List UInt8) (j lp : Nat) : sll (39 :: 39 :: t) j lp = sll t (j + 2) j := by
  rw [sll]; simp

theorem sll_close (t : List UInt8) (j lp : Nat) (h : t.head? ≠ some 39) : sll (39 :: t) j lp = j + 1 := by
  cases t with
  | nil => simp [sll]
  | cons d r =>
    have hd : d ≠ 39 := by simpa using h
    rw [sll]; simp [hd]

theorem sll_none (l : List UInt8) (lp j : Nat) (h : 39 ∉ l) : sll l j lp = if 0 < lp then lp + 1 else 0 := by
  induction l generalizing j with
  | nil => rfl
  | cons c t ih =>
    rw [sll_other c t j lp (fun e => h (by simp [e]))]
    exact ih (j + 1) (fun e => h (by simp [e]))

/-- Nothing found: there is no quote at all, and there was no pair. -/
theorem sll_zero : ∀ (n : Nat) (l : List UInt8) (j lp : Nat), l.length ≤ n → 1 ≤ j → sll l j lp = 0 → lp = 0 ∧ 39 ∉ l
  | 0, l, j, lp, hn, hj, h => by
    have : l = [] := List.length_eq_zero_iff.1 (by omega)
    subst this
    simp [sll] at h ⊢; omega
  | n + 1, [], j, lp, hn, hj, h => by simp [sll] at h ⊢; omega
  | n + 1, c :: t, j, lp, hn, hj, h => by
    by_cases hc : c = 39
    · subst hc
      cases t with
      | nil => simp [sll] at h
      | cons d r =>
        by_cases hd : d = 39
        · subst hd
          rw [sll_pair] at h
          have := (sll_zero n r (j + 2) j (by simp at hn; omega) (by omega) h).1
          omega
        · rw [sll_close _ _ _ (by simpa using hd)] at h
          omega
    · rw [sll_other c t j lp hc] at h
      have ih := sll_zero n t (j + 1) lp (by simp at hn; omega) (by omega) h
      exact ⟨ih.1, by simp [Ne.symm hc, ih.2]⟩

/-- Something found: it is a literal of two bytes at least, and it ends within the text. -/
theorem sll_some : ∀ (n : Nat) (l : List UInt8) (j lp : Nat), l.length ≤ n → 1 ≤ j → lp < j → sll l j lp ≠ 0 → 2 ≤ sll l j lp ∧ sll l j lp ≤ j + l.length
  | 0, l, j, lp, hn, hj, hlp, h => by
    have : l = [] := List.length_eq_zero_iff.1 (by omega)
    subst this
    simp [sll] at h ⊢; rw [if_pos (by omega)]; omega
  | n + 1, [], j, lp, hn, hj, hlp, h => by
    simp [sll] at h ⊢; rw [if_pos (by omega)]; omega
  | n + 1, c :: t, j, lp, hn, hj, hlp, h => by
    by_cases hc : c = 39
    · subst hc
      cases t with
      | nil => simp [sll]; omega
      | cons d r =>
        by_cases hd : d = 39
        · subst hd
          rw [sll_pair] at h ⊢
          have := sll_some n r (j + 2) j (by simp at hn; omega) (by omega) (by omega) h
          simp; omega
        · rw [sll_close _ _ _ (by simpa using hd)]
          simp; omega
    · rw [sll_other c t j lp hc] at h ⊢
      have ih := sll_some n t (j + 1) lp (by simp at hn; omega) (by omega) (by omega) h
      simp; omega

/-- The inner quotes doubled. -/
def dbl : List UInt8 → List UInt8
  | [] => []
  | c :: t => (if c = 39 then [39, 39] else [c]) ++ dbl t

theorem dbl_append (a b : List UInt8) : dbl (a ++ b) = dbl a ++ dbl b := by
  induction a with
  | nil => rfl
  | cons c t ih => simp [dbl, ih]

theorem dbl_len (l : List UInt8) : (dbl l).length ≤ 2 * l.length := by
  induction l with
  | nil => simp [dbl]
  | cons c t ih => simp only [dbl, List.length_append, List.length_cons]; split <;> simp <;> omega

theorem sll_dbl (t q : List UInt8) (j lp : Nat) (hq : 39 ∉ q) : sll (dbl t ++ 39 :: q) j lp = j + (dbl t).length + 1 := by
  induction t generalizing j lp with
  | nil =>
    simp only [dbl, List.nil_append]
    rw [sll_close]
    · simp
    · cases q with
      | nil => simp
      | cons d r => simp only [List.head?_cons]; intro e; apply hq; simp at e; simp [e]
  | cons c t ih =>
    by_cases hc : c = 39
    · subst hc
      simp only [dbl, if_true, List.cons_append, List.nil_append]
      rw [sll_pair, ih]
      simp; omega
    · simp only [dbl, hc, if_false, List.cons_append, List.nil_append]
      rw [sll_other _ _ _ _ hc, ih]
      simp; omega

/-- Cut at the first quote. -/
def pre (l : List UInt8) : List UInt8 := l.takeWhile (fun c => c != 39)
def post (l : List UInt8) : List UInt8 := l.dropWhile (fun c => c != 39)

/-- Each literal masked; 'n': no fewer than the text's bytes. -/
def rep : Nat → List UInt8 → List UInt8
  | 0, l => l
  | n + 1, l => match post l with
    | [] => l
    | q :: t => if sll t 1 0 = 0 then pre l ++ q :: rep n t else pre l ++ 63 :: rep n (t.drop (sll t 1 0 - 1))

theorem pre_post (l : List UInt8) : l = pre l ++ post l := (List.takeWhile_append_dropWhile).symm

theorem post_nil (l : List UInt8) (h : 39 ∉ l) : post l = [] ∧ pre l = l := by
  induction l with
  | nil => exact ⟨rfl, rfl⟩
  | cons c t ih =>
    have hc : c ≠ 39 := fun e => h (by simp [e])
    have it := ih (fun e => h (by simp [e]))
    unfold post pre at *
    simp [hc, it.1, it.2]

theorem post_head (l : List UInt8) (q : UInt8) (t : List UInt8) (h : post l = q :: t) : q = 39 := by
  induction l with
  | nil => simp [post] at h
  | cons c r ih =>
    unfold post at *
    by_cases hc : c = 39
    · subst hc; simp at h; exact h.1.symm
    · simp [hc] at h; exact ih h

theorem pre_free (l : List UInt8) : 39 ∉ pre l := by
  induction l with
  | nil => simp [pre]
  | cons c t ih =>
    unfold pre at *
    by_cases hc : c = 39
    · simp [hc]
    · simp [hc, Ne.symm hc, ih]

theorem rep_free (n : Nat) (l : List UInt8) (h : 39 ∉ l) : rep n l = l := by
  cases n with
  | zero => rfl
  | succ n => rw [rep, (post_nil l h).1]

theorem rep_len : ∀ (n : Nat) (l : List UInt8), (rep n l).length ≤ l.length
  | 0, l => Nat.le_refl _
  | n + 1, l => by
    rw [rep]
    have hl := congrArg List.length (pre_post l)
    split
    · exact Nat.le_refl _
    · rename_i q t hp
      rw [hp] at hl
      simp at hl
      split
      · have := rep_len n t; simp; omega
      · rename_i hs
        have h2 := sll_some t.length t 1 0 (Nat.le_refl _) (Nat.le_refl _) (by omega) hs
        have := rep_len n (t.drop (sll t 1 0 - 1))
        simp at this ⊢
        omega

/-- The quotes of a text. -/
def cq (l : List UInt8) : Nat := l.count 39

theorem cq_free (l : List UInt8) : cq l = 0 ↔ 39 ∉ l := by unfold cq; exact List.count_eq_zero

theorem rep_cq : ∀ (n : Nat) (l : List UInt8), l.length ≤ n → cq (rep n l) ≤ 1
  | 0, l, hn => by
    have : l = [] := List.length_eq_zero_iff.1 (by omega)
    subst this
    simp [rep, cq]
  | n + 1, l, hn => by
    rw [rep]
    have hl := congrArg List.length (pre_post l)
    have hf : cq (pre l) = 0 := (cq_free _).2 (pre_free l)
    split
    · rename_i hp
      have e : l = pre l := by have := pre_post l; rw [hp] at this; simpa using this
      rw [e, hf]; omega
    · rename_i q t hp
      have hq := post_head l q t hp
      subst hq
      rw [hp] at hl
      simp at hl
      split
      · rename_i hs
        have hz := (sll_zero t.length t 1 0 (Nat.le_refl _) (Nat.le_refl _) hs).2
        rw [rep_free n t hz]
        unfold cq at *
        rw [List.count_append, hf, List.count_cons, List.count_eq_zero.2 hz]
        simp
      · have ih := rep_cq n (t.drop (sll t 1 0 - 1)) (by simp; omega)
        unfold cq at *
        rw [List.count_append, hf, List.count_cons]
        simpa using ih

theorem cq_snoc (l : List UInt8) (c : UInt8) : cq (l ++ [c]) = cq l + if c = 39 then 1 else 0 := by
  unfold cq; rw [List.count_append, List.count_singleton]; simp

theorem cq_le (l : List UInt8) : cq l ≤ l.length := List.count_le_length

/-- One literal between two texts without a quote. -/
theorem rep_one (n : Nat) (p t q : List UInt8) (hp : 39 ∉ p) (hq : 39 ∉ q) : rep (n + 1) (p ++ (39 :: (dbl t ++ 39 :: q))) = p ++ 63 :: q := by
  have h1 : post (p ++ (39 :: (dbl t ++ 39 :: q))) = 39 :: (dbl t ++ 39 :: q) ∧ pre (p ++ (39 :: (dbl t ++ 39 :: q))) = p := by
    generalize dbl t ++ 39 :: q = r
    induction p with
    | nil => exact ⟨by simp [post], by simp [pre]⟩
    | cons c u ih =>
      have hc : c ≠ 39 := fun e => hp (by simp [e])
      have it := ih (fun e => hp (by simp [e]))
      unfold post pre at *
      simp [hc, it.1, it.2]
  have hs : sll (dbl t ++ 39 :: q) 1 0 = 1 + (dbl t).length + 1 := sll_dbl t q 1 0 hq
  rw [rep, h1.1]
  dsimp only
  rw [h1.2, hs, if_neg (by omega)]
  have e : (dbl t ++ 39 :: q).drop (1 + (dbl t).length + 1 - 1) = q := by
    rw [show 1 + (dbl t).length + 1 - 1 = (dbl t).length + 1 from by omega, List.drop_append]
    simp
  rw [e, rep_free n q hq]

end Go.Proofs.Qxb6000745a
