/-
  THE LEAVES: zzAddSliceBytes (16), zzAddLen (17), zzClone (18), zzMin3 (19), zzCovers (22), zzHasSuffix (28).
-/
import Derived.Test.Qxb6000491aTrees
import Derived.OwnWalk
namespace Go.Proofs.Qxb6000491a
open Go.RowKit Go.Maps Go.WideMaps

/-- A slice of n strings, as the cells hold them. -/
def Txt (w : World) (a : Option Addr) (n : Nat) (f : Nat → ByteArray) : Prop :=
  ∀ i, i < n → ∃ b off, a = some ⟨b, off, none⟩ ∧ b < w.heap.size ∧ w.cell? ⟨b, off + i, none⟩ = some (.string (f i)) ∧ (f i).size ≤ maxLen

theorem min3_walk (a b c : Nat) (w : World) : Calls Try.prog 19 #[.int .i64 a, .int .i64 b, .int .i64 c] w fun e w' => ∃ r : Nat, e = .returned (.int .i64 r) ∧ r ≤ a ∧ r ≤ b ∧ r ≤ c ∧ w' = w := by
  by_cases h1 : b < a
  · by_cases h2 : c < b
    · go_enter Try.func19, Try.ntmps19
      go_wp2
      go_ret
      exact ⟨c, rfl, by omega, by omega, by omega, rfl⟩
    · go_enter Try.func19, Try.ntmps19
      go_wp2
      go_ret
      exact ⟨b, rfl, by omega, by omega, by omega, rfl⟩
  · by_cases h2 : c < a
    · go_enter Try.func19, Try.ntmps19
      go_wp2
      go_ret
      exact ⟨c, rfl, by omega, by omega, by omega, rfl⟩
    · go_enter Try.func19, Try.ntmps19
      go_wp2
      go_ret
      exact ⟨a, rfl, by omega, by omega, by omega, rfl⟩

theorem addlen_walk (t : Nat) (s : ByteArray) (ht : t ≤ 4000000) (w : World) : Calls Try.prog 17 #[.int .i64 t, .string s] w fun e w' => ∃ r : Nat, e = .returned (.int .i64 r) ∧ r ≤ 4000000 ∧ (r ≤ 1048576 → t ≤ 1048576 ∧ s.size ≤ 1048576) ∧ w' = w := by
  by_cases h1 : 1048576 < t
  · go_enter Try.func17, Try.ntmps17
    go_wp2
    go_ret
    exact ⟨1048577, rfl, by omega, fun h => by omega, rfl⟩
  · by_cases h2 : 1048576 < s.size
    · go_enter Try.func17, Try.ntmps17
      go_wp2
      go_ret
      exact ⟨1048577, rfl, by omega, fun h => by omega, rfl⟩
    · go_enter Try.func17, Try.ntmps17
      go_wp2
      go_ret
      exact ⟨t + s.size, by go_num, by omega, fun h => ⟨by omega, by omega⟩, rfl⟩

set_option maxHeartbeats 1000000 in
theorem addslice_walk (t : Nat) (a : Option Addr) (n cap : Nat) (f : Nat → ByteArray) (w : World) (ht : t ≤ 4000000) (hn : n ≤ 1048576) (H : Txt w a n f) :
    Calls Try.prog 16 #[.int .i64 t, .slice a n cap] w fun e w' => ∃ r : Nat, e = .returned (.int .i64 r) ∧ r ≤ 4000000 ∧ (r ≤ 1048576 → t ≤ 1048576 ∧ ∀ i, i < n → (f i).size ≤ 1048576) ∧ w' = w := by
  have HT := hidden H
  clear H
  go_enter Try.func16, Try.ntmps16
  go_wp2
  go_loop [0, 5, 6] (fun tv iv _ => ∃ (k s : Nat), k ≤ n ∧ iv = .int .i64 k ∧ tv = .int .i64 s ∧ s ≤ 4000000 ∧ (s ≤ 1048576 → t ≤ 1048576 ∧ ∀ i, i < k → (f i).size ≤ 1048576)) (fun _ iv _ => n - (intOf iv).toNat)
  case atStart => exact ⟨0, t, Nat.zero_le _, rfl, rfl, ht, fun h => ⟨h, fun i hi => absurd hi (Nat.not_lt_zero _)⟩⟩
  case round =>
    obtain ⟨k, s, hk, rfl, rfl, hs, hq⟩ := hrel
    have HQ := hidden hq
    clear hq
    by_cases hlt : k < n
    · by_cases h1 : 1048576 < s
      · go_wp2
        go_ret
        exact ⟨s, rfl, hs, fun h => by omega, rfl⟩
      · obtain ⟨b, off, rfl, hb, hc, hz⟩ := HT.out k hlt
        by_cases h2 : 1048576 < (f k).size
        · go_wp2
          go_ret
          exact ⟨1048577, rfl, by omega, fun h => by omega, rfl⟩
        · go_wp2
          go_round
          case rel => exact ⟨k + 1, s + ((f k).size + 16), by omega, by go_num, by go_num, by omega, fun h => ⟨(HQ.out (by omega)).1, fun i hi => by
            rcases Nat.lt_or_ge i k with h3 | h3
            · exact (HQ.out (by omega)).2 i h3
            · have : i = k := by omega
              subst this; omega⟩⟩
          case measure => simp [intOf]; omega
    · have e : k = n := by omega
      subst e
      go_wp2
      go_ret
      exact ⟨s, rfl, hs, HQ.out, rfl⟩

/-! ### zzClone -/
theorem info9 : (Try.prog.info? 9).map (fun i => (i.zero, i.size, i.bytes)) = some (some (.string ⟨#[]⟩), 1, 16) := by kernel_rfl

def strsTo (f : Nat → ByteArray) (k : Nat) : List Value := (List.range k).map fun i => .string (f i)

theorem strsTo_succ (f : Nat → ByteArray) (k : Nat) : strsTo f (k + 1) = strsTo f k ++ [.string (f k)] := by
  unfold strsTo; rw [List.range_succ, List.map_append]; rfl
theorem strsTo_length (f : Nat → ByteArray) (k : Nat) : (strsTo f k).length = k := by simp [strsTo]

theorem set_mid (f : Nat → ByteArray) (z : Value) (n k : Nat) (hk : k < n) :
    (strsTo f k ++ List.replicate (n - k) z).set k (.string (f k)) = strsTo f (k + 1) ++ List.replicate (n - (k + 1)) z := by
  rw [List.set_append_right _ _ (by rw [strsTo_length]; omega), strsTo_length, Nat.sub_self]
  obtain ⟨r, hr⟩ : ∃ r, n - k = r + 1 := ⟨n - k - 1, by omega⟩
  rw [hr, show n - (k + 1) = r from by omega, List.replicate_succ, List.set_cons_zero, strsTo_succ, List.append_assoc]
  rfl

/-- A copy: what zzClone hands back. -/
def Copy (w : World) (a : Option Addr) (n : Nat) (f : Nat → ByteArray) : Prop :=
  ∀ i, i < n → ∃ g, a = some ⟨g, 0, none⟩ ∧ g < w.heap.size ∧ w.cell? ⟨g, i, none⟩ = some (.string (f i))

set_option maxHeartbeats 1000000 in
set_option maxRecDepth 100000 in
theorem clone_some (x : Addr) (n cap : Nat) (f : Nat → ByteArray) (w : World) (hn : n ≤ 1048576) (H : Txt w (some x) n f) :
    Calls Try.prog 18 #[.slice (some x) n cap] w fun e w' => e = .returned (.slice (some ⟨w.heap.size, 0, none⟩) n n) ∧ Copy w' (some ⟨w.heap.size, 0, none⟩) n f ∧ Below w.heap.size w w' := by
  obtain ⟨i0, hi, hz0, hz1, hz2⟩ := info_parts info9
  have q26 : ∀ (w : World) (a : Option Addr) (n c n' c' : Nat), (binOp .eql 26 (.slice a n c) (.slice none n' c')).run Try.prog w = .ok (.bool a.isNone) w := fun w a n c n' c' => Lib.run_eql_slice_nil w _ _ a n c n' c' Try.underlying26
  have HT := hidden H
  clear H
  go_enter Try.func18, Try.ntmps18
  go_wp2_with (at_make; refine wpList_make_full _ rfl _ _ 26 rfl w.heap.size 9 i0 (.string ⟨#[]⟩) 1 Try.underlying26 hi hz0 hz1 _ _ _ _ n rfl rfl rfl rfl ?b2 ?b3 (Nat.le_refl _) ?_)
  case b2 => rw [hz2]; omega
  case b3 => unfold maxLen; omega
  intro w0 hown0 hgrow0
  have b0 : Below w.heap.size w w0 := (Below.refl _ w).grown hgrow0 (Nat.le_refl _) (fun k h => by cases h)
  rw [toList_madeCells_one] at hown0
  clear hgrow0
  go_wp2
  go_loopw [4] (fun i wr => ∃ k : Nat, k ≤ n ∧ i = .int .i64 k ∧ wr.ownsRow w.heap.size 9 1 (.slice (some ⟨w.heap.size, 0, none⟩) n n) n (strsTo f k ++ List.replicate (n - k) (Value.string ⟨#[]⟩)) ∧ Below w.heap.size w wr) (fun i _ => n - (intOf i).toNat)
  case atStart => exact ⟨0, Nat.zero_le _, rfl, by simpa [strsTo] using hown0, b0⟩
  case round =>
    obtain ⟨k, hk, rfl, hown, hbel⟩ := hrel
    by_cases hlt : k < n
    · obtain ⟨b, off, hx, hb, hc, _⟩ := HT.out k hlt
      obtain rfl := Option.some.inj hx
      have hcx : wr.cell? ⟨b, off + k, none⟩ = some (.string (f k)) := (hbel.cell (p := ⟨b, off + k, none⟩) (by exact hb)).trans hc
      have hfz := hown.frozenAt k
      obtain ⟨v, hv⟩ : ∃ v, wr.cell? ⟨w.heap.size, k, none⟩ = some v := ⟨_, (hown.cellAt k (by omega)).trans (List.getElem?_eq_getElem (by simp [strsTo_length]; omega))⟩
      have hst := hown.stored k (.string (f k))
      rw [set_mid f _ n k hlt] at hst
      have HS := hidden hst
      clear hst hc hx
      go_wp2
      go_roundw
      case rel => exact ⟨k + 1, by omega, by go_num, HS.out.1, hbel.grown HS.out.2 hbel.size (fun j hj => by cases hj; exact Nat.le_refl _)⟩
      case measure => simp [intOf]; omega
    · have e : k = n := by omega
      subst e
      go_wp2
      go_ret
      refine ⟨rfl, fun i hi => ⟨w.heap.size, rfl, (hown.lt w.heap.size rfl).2, ?_⟩, hbel⟩
      rw [hown.cellAt i (by omega), Nat.sub_self, List.replicate_zero, List.append_nil]
      simp [strsTo, hi]

theorem clone_nil (w : World) : Calls Try.prog 18 #[.slice none 0 0] w fun e w' => e = .returned (.slice none 0 0) ∧ w' = w := by
  have q26 : ∀ (w : World) (a : Option Addr) (n c n' c' : Nat), (binOp .eql 26 (.slice a n c) (.slice none n' c')).run Try.prog w = .ok (.bool a.isNone) w := fun w a n c n' c' => Lib.run_eql_slice_nil w _ _ a n c n' c' Try.underlying26
  go_enter Try.func18, Try.ntmps18
  go_wp2
  go_ret
  exact ⟨rfl, rfl⟩

/-- A slice argument: nil, or somewhere. -/
theorem clone_walk (a : Option Addr) (n cap : Nat) (f : Nat → ByteArray) (w : World) (hn : n ≤ 1048576) (hnil : a = none → n = 0 ∧ cap = 0) (H : Txt w a n f) :
    Calls Try.prog 18 #[.slice a n cap] w fun e w' => ∃ a' c', e = .returned (.slice a' n c') ∧ Copy w' a' n f ∧ Below w.heap.size w w' := by
  cases a with
  | none =>
    obtain ⟨rfl, rfl⟩ := hnil rfl
    refine (clone_nil w).mono ?_
    rintro _ _ ⟨rfl, rfl⟩
    exact ⟨none, 0, rfl, fun i hi => absurd hi (Nat.not_lt_zero _), Below.refl _ _⟩
  | some x =>
    refine (clone_some x n cap f w hn H).mono ?_
    rintro _ w' ⟨rfl, h1, h2⟩
    exact ⟨_, _, rfl, h1, h2⟩

/-! ### zzHasSuffix, zzCovers -/
theorem suf_false_len {m d : ByteArray} (h : m.size < d.size) : sufB m d = false := by
  unfold sufB
  rw [Bool.eq_false_iff]
  intro h2
  rw [List.isSuffixOf_iff_suffix] at h2
  have := h2.length_le
  have e1 : m.data.toList.length = m.size := rfl
  have e2 : d.data.toList.length = d.size := rfl
  omega

theorem suf_iff {m d : ByteArray} {off : Nat} (ho : m.size = off + d.size) : sufB m d = true ↔ ∀ j, j < d.size → m.data.toList[off + j]? = d.data.toList[j]? := by
  have e1 : m.data.toList.length = m.size := rfl
  have e2 : d.data.toList.length = d.size := rfl
  unfold sufB
  rw [List.isSuffixOf_iff_suffix, List.suffix_iff_eq_drop, e1, e2, show m.size - d.size = off by omega]
  constructor
  · intro h j _
    rw [h, List.getElem?_drop]
  · intro h
    apply List.ext_getElem?
    intro j
    rw [List.getElem?_drop]
    rcases Nat.lt_or_ge j d.size with hj | hj
    · exact (h j hj).symm
    · rw [List.getElem?_eq_none (by omega), List.getElem?_eq_none (by omega)]

theorem idx_at (m : ByteArray) (off k : Nat) (h : off + k < m.size) (wx : World) : (Instr.index 9 (.string m) (.int .i64 ((off : Int) + (k : Int)))).run Try.prog wx = .ok (.int .u8 ((m[off + k]).toNat : Int)) wx := by
  rw [run_index_string wx 9 m .i64 _ Try.underlying9]
  rw [dif_pos (by omega)]
  rfl

set_option maxHeartbeats 1000000 in
theorem suffix_walk (m d : ByteArray) (hm : m.size ≤ maxLen) (w : World) : Calls Try.prog 28 #[.string m, .string d] w fun e w' => e = .returned (.bool (sufB m d)) ∧ ∃ n, w' = w.drewN n := by
  unfold maxLen at hm
  by_cases hlen : m.size < d.size
  · rw [suf_false_len hlen]
    go_enter Try.func28, Try.ntmps28
    go_wp2
    go_ret
    exact ⟨rfl, 0, rfl⟩
  · obtain ⟨off, ho⟩ : ∃ off, m.size = off + d.size := ⟨m.size - d.size, by omega⟩
    have hsub : (m.size : Int) - (d.size : Int) = (off : Int) := by omega
    obtain ⟨R, hR⟩ : ∃ R, R = sufB m d := ⟨_, rfl⟩
    have HR := hidden hR
    have HO := hidden ho
    rw [← hR]
    have hle : d.size ≤ m.size := by omega
    have hol : off ≤ m.size := by omega
    have hod : ∀ k, k < d.size → off + k < m.size := fun k hk => by omega
    clear hR ho
    go_enter Try.func28, Try.ntmps28
    go_wp2
    go_loopw [6] (fun t wr => ∃ k n : Nat, k ≤ d.size ∧ t = .int .i64 k ∧ (∀ j, j < k → m.data.toList[off + j]? = d.data.toList[j]?) ∧ wr = w.drewN n) (fun t _ => d.size - (intOf t).toNat)
    case atStart => exact ⟨0, 0, Nat.zero_le _, rfl, fun j hj => absurd hj (Nat.not_lt_zero _), rfl⟩
    case round =>
      obtain ⟨k, n, hk, rfl, hq, rfl⟩ := hrel
      have HQ := hidden hq
      clear hq
      by_cases hlt : k < d.size
      · have hlt2 : off + k < m.size := hod k hlt
        have hidx : ∀ wx, (Instr.index 9 (.string m) (.int .i64 ((off : Int) + (k : Int)))).run Try.prog wx = .ok (.int .u8 ((m[off + k]).toNat : Int)) wx := fun wx => idx_at m off k hlt2 wx
        have e1 : m.data.toList[off + k]? = some m[off + k] := List.getElem?_eq_getElem (show off + k < m.data.toList.length from hlt2)
        have e2 : d.data.toList[k]? = some d[k] := List.getElem?_eq_getElem (show k < d.data.toList.length from hlt)
        have E1 := hidden e1
        have E2 := hidden e2
        clear e1 e2
        by_cases he : m[off + k] = d[k]
        · have ht : (((m[off + k]).toNat : Int) == ((d[k]).toNat : Int)) = true := by rw [he]; simp
          go_wp2
          go_region
          all_goals
            go_wp2
            go_roundw
            case rel => exact ⟨k + 1, _, by omega, by go_num, fun j hj => by
              rcases Nat.lt_or_ge j k with h3 | h3
              · exact HQ.out j h3
              · have : j = k := by omega
                subst this
                rw [E1.out, E2.out, he], rfl⟩
            case measure => simp [intOf]; omega
        · have ht : (((m[off + k]).toNat : Int) == ((d[k]).toNat : Int)) = false := by
            rw [beq_eq_false_iff_ne]; intro h; apply he
            apply UInt8.toNat_inj.1
            omega
          go_wp2
          go_region
          all_goals
            go_wp2
            go_ret
            refine ⟨?_, _, rfl⟩
            have : sufB m d = false := by
              rw [Bool.eq_false_iff]
              intro h
              have h2 := (suf_iff HO.out).1 h k hlt
              rw [E1.out, E2.out] at h2
              exact he (Option.some.inj h2)
            rw [HR.out, this]
            rfl
      · have e : k = d.size := by omega
        subst e
        go_wp2
        go_ret
        refine ⟨?_, n, rfl⟩
        rw [HR.out, (suf_iff HO.out).2 HQ.out]
        rfl

theorem dotted_nil {d : ByteArray} (h : ¬ 0 < d.size) : dotted d = false := by
  have e : d.data.toList = [] := List.eq_nil_of_length_eq_zero (by show d.size = 0; omega)
  unfold dotted; rw [e]; rfl

theorem dotted_at {d : ByteArray} (h : 0 < d.size) : dotted d = (((d[0]).toNat : Int) == 46) := by
  have e : d.data.toList.head? = some d[0] := by
    rw [List.head?_eq_getElem?, List.getElem?_eq_getElem (show 0 < d.data.toList.length from h)]
    rfl
  unfold dotted
  rw [e, Bool.eq_iff_iff]
  simp only [beq_iff_eq, Option.some.injEq]
  constructor
  · intro h; rw [h]; rfl
  · intro h
    apply UInt8.toNat_inj.1
    have : (46 : UInt8).toNat = 46 := rfl
    omega

set_option maxHeartbeats 1000000 in
theorem covers_walk (c : Con) (ml md : ByteArray) (hm : md.size ≤ maxLen) (w : World) : Calls Try.prog 22 #[.string c.l, .string c.d, .string ml, .string md] w fun e w' => e = .returned (.bool (covers c ml md)) ∧ ∃ n, w' = w.drewN n := by
  have SX := suffix_walk md c.d hm
  unfold covers
  unfold nilB
  by_cases hnl : c.l.toList.isEmpty = true
  · rw [hnl]
    simp only [if_true]
    by_cases h0 : 0 < c.d.size
    · have hdt := dotted_at h0
      by_cases h46 : (((c.d[0]).toNat : Int) == 46) = true
      · rw [hdt, h46]
        simp only [if_true]
        clear hdt
        go_enter Try.func22, Try.ntmps22
        go_wp2_with (go_at_call 28; refine (SX _).mono ?_; rintro _ _ ⟨rfl, n, rfl⟩)
        go_ret
        exact ⟨rfl, n, rfl⟩
      · have h46' : (((c.d[0]).toNat : Int) == 46) = false := by simpa using h46
        rw [hdt, h46']
        simp only [Bool.false_eq_true, if_false]
        clear hdt
        go_enter Try.func22, Try.ntmps22
        go_wp2
        go_ret
        exact ⟨rfl, 0, rfl⟩
    · rw [dotted_nil h0]
      simp only [Bool.false_eq_true, if_false]
      go_enter Try.func22, Try.ntmps22
      go_wp2
      go_ret
      exact ⟨rfl, 0, rfl⟩
  · have hnl' : c.l.toList.isEmpty = false := by simpa using hnl
    rw [hnl']
    simp only [Bool.false_eq_true, if_false]
    by_cases h1 : eqB c.l ml = true
    · rw [h1]
      have h1' : (c.l.toList == ml.toList) = true := h1
      go_enter Try.func22, Try.ntmps22
      go_wp2
      go_ret
      exact ⟨rfl, 0, rfl⟩
    · have h1' : eqB c.l ml = false := by simpa using h1
      have h1'' : (c.l.toList == ml.toList) = false := h1'
      rw [h1']
      go_enter Try.func22, Try.ntmps22
      go_wp2
      go_ret
      exact ⟨rfl, 0, rfl⟩
end Go.Proofs.Qxb6000491a
