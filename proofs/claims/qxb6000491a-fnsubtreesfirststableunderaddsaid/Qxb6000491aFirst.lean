/-
  THE WALK OF (emailSubtrees).first (27) AND OF ZZFirst (21), ZZAdd (24).
-/
import Derived.Test.Qxb6000491aAdd
import Derived.Laws.ResultCell
import Derived.Laws.OwnMore
namespace Go.Proofs.Qxb6000491a
open Go.RowKit Go.Maps Go.WideMaps

/-! ### Plain steps of the search -/
def upd (best : Nat) : Option Nat → Nat
  | some j => if j < best then j else best
  | none => best

theorem upd_le (best : Nat) (J : Option Nat) : upd best J ≤ best := by
  unfold upd; split
  · split <;> omega
  · exact Nat.le_refl _

theorem upd_le' (best : Nat) {J : Option Nat} {j : Nat} (h : J = some j) : upd best J ≤ j := by
  subst h; unfold upd; simp only []; split <;> omega

theorem upd_is (best : Nat) (J : Option Nat) : upd best J = best ∨ J = some (upd best J) := by
  unfold upd; split
  · split
    · right; rfl
    · left; rfl
  · left; rfl

theorem Found.start (cs : List Con) (ml md : ByteArray) : Found cs ml md md.size (upd ((f1 cs ml md).getD cs.length) (f2 cs md)) := by
  have hb1 : (f1 cs ml md).getD cs.length ≤ cs.length := by
    cases h : f1 cs ml md with
    | none => exact Nat.le_refl _
    | some i => obtain ⟨hi, _⟩ := f1_some h; exact Nat.le_of_lt hi
  refine ⟨Nat.le_trans (upd_le _ _) hb1, ?_, ?_, ?_, ?_⟩
  · intro hlt
    rcases upd_is ((f1 cs ml md).getD cs.length) (f2 cs md) with h | h
    · simp only [h]
      rw [h] at hlt
      obtain ⟨i, hi⟩ : ∃ i, f1 cs ml md = some i := by
        cases h1 : f1 cs ml md with
        | none => rw [h1] at hlt; simp only [Option.getD_none] at hlt; omega
        | some i => exact ⟨i, rfl⟩
      obtain ⟨_, hc⟩ := cov_box hi
      simp only [hi, Option.getD_some]
      exact hc
    · obtain ⟨_, hc⟩ := cov_own (ml := ml) h
      exact hc
  · intro i h
    refine Nat.le_trans (upd_le _ _) ?_
    rw [h]; exact Nat.le_refl _
  · intro i h
    exact upd_le' _ h
  · intro q h1 h2
    exact absurd h2 (by show ¬ q < md.data.toList.length; have : md.data.toList.length = md.size := rfl; omega)

theorem Found.other {cs : List Con} {ml md : ByteArray} {k best : Nat} (h : Found cs ml md (k + 1) best) (hk : k < md.size) (hne : md[k] ≠ 46) : Found cs ml md k best := by
  refine ⟨h.le, h.cov, h.box, h.own, fun q h1 h2 h3 j hj => ?_⟩
  rcases Nat.lt_or_ge k q with hlt | hge
  · exact h.suf q hlt h2 h3 j hj
  · have : q = k := by omega
    subst this
    rw [List.getElem?_eq_getElem h2] at h3
    exact absurd (Option.some.inj h3) hne

theorem Found.dot {cs : List Con} {ml md : ByteArray} {k best : Nat} (h : Found cs ml md (k + 1) best) (hk : k < md.size) (he : md[k] = 46) : Found cs ml md k (upd best (f2 cs (tail md k))) := by
  have hq : md.data.toList[k]? = some 46 := by
    rw [List.getElem?_eq_getElem (show k < md.data.toList.length from hk)]
    exact congrArg some he
  refine ⟨Nat.le_trans (upd_le _ _) h.le, ?_, fun i hi => Nat.le_trans (upd_le _ _) (h.box i hi), fun i hi => Nat.le_trans (upd_le _ _) (h.own i hi), fun q h1 h2 h3 j hj => ?_⟩
  · intro hlt
    rcases upd_is best (f2 cs (tail md k)) with e | e
    · simp only [e]
      exact h.cov (by rw [← e]; exact hlt)
    · obtain ⟨_, hc⟩ := cov_suf (ml := ml) hq e
      exact hc
  · rcases Nat.lt_or_ge k q with hlt | hge
    · exact Nat.le_trans (upd_le _ _) (h.suf q hlt h2 h3 j hj)
    · have : q = k := by omega
      subst this
      exact upd_le' _ hj

theorem dots_tail (md : ByteArray) (k : Nat) (hk : k < md.size) : dots (tail md k) = dots (tail md (k + 1)) + (if md[k] = 46 then 1 else 0) := by
  unfold dots
  rw [tail_list, tail_list, List.drop_eq_getElem_cons (show k < md.data.toList.length from hk), List.count_cons]
  congr 1
  show (if md[k] == 46 then 1 else 0) = _
  by_cases h : md[k] = 46 <;> simp [h]

theorem dots_tail_end (md : ByteArray) : dots (tail md md.size) = 0 := by
  unfold dots
  rw [tail_list]
  have : md.data.toList.drop md.size = [] := List.drop_eq_nil_of_le (Nat.le_refl _)
  rw [this]; rfl

theorem dots_mono (md : ByteArray) {p q : Nat} (h : p ≤ q) : dots (tail md q) ≤ dots (tail md p) := by
  unfold dots
  rw [tail_list, tail_list]
  apply List.Sublist.count_le
  have : md.data.toList.drop q = (md.data.toList.drop p).drop (q - p) := by rw [List.drop_drop]; congr 1; omega
  rw [this]
  exact List.drop_sublist _ _

theorem Found.over {cs : List Con} {md : ByteArray} {k : Nat} (hl : labels cs ≤ dots (tail md k)) : ∀ q, q < k → md.data.toList[q]? = some 46 → labels cs < dots (tail md q) := by
  intro q hq he
  have hlt : q < md.size := (List.getElem?_eq_some_iff.1 he).1
  have e1 := dots_tail md q hlt
  have e2 : md[q] = 46 := by
    rw [List.getElem?_eq_getElem (show q < md.data.toList.length from hlt)] at he
    exact Option.some.inj he
  rw [if_pos e2] at e1
  have := dots_mono md (show q + 1 ≤ k from hq)
  omega

theorem tail_size (md : ByteArray) (q : Nat) : (tail md q).size ≤ md.size := by
  have : (tail md q).size = (tail md q).data.toList.length := rfl
  rw [this, tail_list, List.length_drop]
  have : md.data.toList.length = md.size := rfl
  omega

/-- What 'first' returns. -/
def hit (cs : List Con) (ml md : ByteArray) : Con := (cs[firstIdx cs ml md]?).getD ⟨⟨#[]⟩, ⟨#[]⟩, ⟨#[]⟩⟩
def found (cs : List Con) (ml md : ByteArray) : Bool := decide (firstIdx cs ml md < cs.length)

/-- The subtrees as values. -/
structure Sub (B : Nat) (w : World) (v m1 m2 : Value) (cs : List Con) : Prop where
  own : w.ownsRow B 46 3 v cs.length (cs.flatMap conCells)
  mp1 : MapIs w B cs.length 50 (fun _ => True) m1 (g1 cs)
  mp2 : MapIs w B cs.length 9 (fun _ => True) m2 (g2 cs)

theorem Sub.grown {B : Nat} {w w' : World} {v m1 m2 : Value} {cs : List Con} (h : Sub B w v m1 m2 cs) (g : w.grownBy w' none) : Sub B w' v m1 m2 cs :=
  ⟨h.own.kept g (by cases v.ownBlock <;> simp), h.mp1.kept g (fun _ _ e => by cases e), h.mp2.kept g (fun _ _ e => by cases e)⟩

theorem zero46 (w : World) : (zeroValue 46).run Try.prog w = .ok (.agg #[.string ⟨#[]⟩, .string ⟨#[]⟩, .string ⟨#[]⟩]) w := by kernel_rfl

theorem before (k : Nat) : (k = 0 ∧ Value.int .i64 ((k : Int) - 1) = .int .i64 (-1)) ∨ ∃ q : Nat, k = q + 1 ∧ Value.int .i64 ((k : Int) - 1) = .int .i64 q := by
  cases k with
  | zero => exact Or.inl ⟨rfl, rfl⟩
  | succ q => exact Or.inr ⟨q, rfl, by congr 1; omega⟩

theorem flat_at : ∀ (cs : List Con) (i j : Nat) (h : i < cs.length), j < 3 → (cs.flatMap conCells)[i * 3 + j]? = (conCells cs[i])[j]?
  | c :: t, 0, j, _, hj => by
    rw [List.flatMap_cons, List.getElem?_append_left (by simp [conCells]; omega)]
    simp
  | c :: t, i + 1, j, h, hj => by
    rw [List.flatMap_cons, List.getElem?_append_right (by simp [conCells]; omega)]
    have : (i + 1) * 3 + j - (conCells c).length = i * 3 + j := by simp [conCells]; omega
    rw [this, flat_at t i j (by simpa using h) hj]
    simp

/-- The cells of one constraint. -/
theorem con_cells {B : Nat} {w : World} {a : Option Addr} {cap : Nat} {cs : List Con} (h : w.ownsRow B 46 3 (.slice a cs.length cap) cs.length (cs.flatMap conCells)) (i : Nat) (hi : i < cs.length) :
    ∃ g, a = some ⟨g, 0, none⟩ ∧ g < w.heap.size ∧ w.cell? ⟨g, i * 3, none⟩ = some (.string cs[i].t) ∧ w.cell? ⟨g, i * 3 + 1, none⟩ = some (.string cs[i].l) ∧ w.cell? ⟨g, i * 3 + 2, none⟩ = some (.string cs[i].d) := by
  rcases h.2 with ⟨hv, hn⟩ | ⟨g, cap', cur, hv, _, hg, _⟩
  · omega
  · simp only [Value.slice.injEq] at hv
    obtain ⟨rfl, _, rfl⟩ := hv
    have hc := fun j hj => h.cellAt j hj
    refine ⟨g, rfl, lt_block hg, ?_, ?_, ?_⟩
    · rw [hc _ (by omega)]; exact flat_at cs i 0 hi (by omega)
    · rw [hc _ (by omega)]; exact flat_at cs i 1 hi (by omega)
    · rw [hc _ (by omega)]; exact flat_at cs i 2 hi (by omega)

/-- Inside 'first': its three boxes behind the old heap's end. -/
structure In (w wr : World) (v m1 m2 : Value) (cs : List Con) (ml md : ByteArray) : Prop where
  grown : w.grownBy wr none
  o1 : wr.heap[w.heap.size]? = some (.cells #[v, m1, m2, .int .i64 (labels cs : Nat)] 44 (0, 0))
  o2 : wr.heap[w.heap.size + 1]? = some (.cells #[.string ml, .string md] 50 (0, 0))
  o3 : wr.heap[w.heap.size + 1 + 1]? = some (.cells #[.string ⟨#[]⟩, .string ⟨#[]⟩, .string ⟨#[]⟩] 46 (0, 0))

theorem In.start (w : World) (v m1 m2 : Value) (cs : List Con) (ml md : ByteArray) : In w (((w.alloc (.cells #[v, m1, m2, .int .i64 (labels cs : Nat)] 44)).alloc (.cells #[.string ml, .string md] 50)).alloc (.cells #[.string ⟨#[]⟩, .string ⟨#[]⟩, .string ⟨#[]⟩] 46)) v m1 m2 cs ml md := by
  refine ⟨((World.grownBy_alloc _ _ none).trans (World.grownBy_alloc _ _ none)).trans (World.grownBy_alloc _ _ none), ?_, ?_, ?_⟩
  · rw [Below.heap_alloc _ _ _ (by simp; omega), Below.heap_alloc _ _ _ (by simp)]
    exact heap_alloc_new w _
  · rw [Below.heap_alloc _ _ _ (by simp)]
    have := heap_alloc_new (w.alloc (.cells #[v, m1, m2, .int .i64 (labels cs : Nat)] 44)) (.cells #[.string ml, .string md] 50)
    simpa using this
  · have := heap_alloc_new ((w.alloc (.cells #[v, m1, m2, .int .i64 (labels cs : Nat)] 44)).alloc (.cells #[.string ml, .string md] 50)) (.cells #[.string ⟨#[]⟩, .string ⟨#[]⟩, .string ⟨#[]⟩] 46)
    simpa using this

theorem In.drewN {w wr : World} {v m1 m2 : Value} {cs : List Con} {ml md : ByteArray} (h : In w wr v m1 m2 cs ml md) (n : Nat) : In w (wr.drewN n) v m1 m2 cs ml md :=
  ⟨h.grown.trans (grown_drewN wr n), h.o1, h.o2, h.o3⟩

/-- The result's box, written. -/
theorem In.wrote {w wr : World} {v m1 m2 : Value} {cs : List Con} {ml md : ByteArray} (h : In w wr v m1 m2 cs ml md) (x y z : Value) :
    w.grownBy (((wr.setCell ⟨w.heap.size + 1 + 1, 0, none⟩ x).setCell ⟨w.heap.size + 1 + 1, 1, none⟩ y).setCell ⟨w.heap.size + 1 + 1, 2, none⟩ z) none := by
  have hs : wr.heap.size ≤ (((wr.setCell ⟨w.heap.size + 1 + 1, 0, none⟩ x).setCell ⟨w.heap.size + 1 + 1, 1, none⟩ y).setCell ⟨w.heap.size + 1 + 1, 2, none⟩ z).heap.size := by simp [World.setCell]
  refine ⟨h.grown.os, h.grown.tape, h.grown.output, Nat.le_trans h.grown.size hs, fun k hk hn => ?_⟩
  rw [Below.heap_setCell _ _ _ _ (by show k ≠ w.heap.size + 1 + 1; omega), Below.heap_setCell _ _ _ _ (by show k ≠ w.heap.size + 1 + 1; omega), Below.heap_setCell _ _ _ _ (by show k ≠ w.heap.size + 1 + 1; omega)]
  exact h.grown.block k hk hn

theorem hit_at {cs : List Con} {ml md : ByteArray} {b : Nat} (hb : b < cs.length) (h : b = firstIdx cs ml md) : hit cs ml md = cs[b] ∧ found cs ml md = true := by
  subst h
  unfold hit found
  simp [hb]

theorem hit_none {cs : List Con} {ml md : ByteArray} (h : cs.length = firstIdx cs ml md) : hit cs ml md = ⟨⟨#[]⟩, ⟨#[]⟩, ⟨#[]⟩⟩ ∧ found cs ml md = false := by
  unfold hit found
  rw [← h]
  simp

set_option maxHeartbeats 1000000 in
set_option maxRecDepth 100000 in
theorem first_walk (B : Nat) (cs : List Con) (ml md : ByteArray) (w : World) (v m1 m2 : Value) (S : Sub B w v m1 m2 cs) (hl : ml.size ≤ maxLen) (hd : md.size ≤ 1048576) (hlab : labels cs ≤ 1048576) :
    Calls Try.prog 27 #[.agg #[v, m1, m2, .int .i64 (labels cs : Nat)], .agg #[.string ml, .string md]] w fun e w' =>
      e = .returned (.tuple #[.agg #[.string (hit cs ml md).t, .string (hit cs ml md).l, .string (hit cs ml md).d], .bool (found cs ml md)]) ∧ w.grownBy w' none := by
  obtain ⟨a, cap, rfl⟩ := ownsRow_shape S.own
  obtain ⟨r1, rfl⟩ := map_shape S.mp1
  obtain ⟨r2, rfl⟩ := map_shape S.mp2
  obtain ⟨kl, hkl⟩ := key50 ml md hl (by unfold maxLen; omega)
  have hkl2 := key9 md (by unfold maxLen; omega)
  have hkl3 : ∀ q, keyOf Try.prog 9 (.string (tail md q)) = some (.string (tail md q).data.toList) := fun q => key9 _ (by have := tail_size md q; unfold maxLen; omega)
  obtain ⟨J1, hJ1⟩ : ∃ J, J = f1 cs ml md := ⟨_, rfl⟩
  obtain ⟨J2, hJ2⟩ : ∃ J, J = f2 cs md := ⟨_, rfl⟩
  have hlk1 : ∀ o1 o2 o3, (Instr.lookup 41 (.map r1) (.agg #[.string ml, .string md]) true).run Try.prog (((w.alloc o1).alloc o2).alloc o3) = .ok (.tuple #[.int .i64 ((J1.getD 0 : Nat) : Int), .bool J1.isSome]) (((w.alloc o1).alloc o2).alloc o3) := fun o1 o2 o3 => by
    subst hJ1
    exact (((S.grown (World.grownBy_alloc _ o1 none)).grown (World.grownBy_alloc _ o2 none)).grown (World.grownBy_alloc _ o3 none)).mp1.look2 law50 Try.underlying41 trivial hkl
  have hlk2 : ∀ o1 o2 o3, (Instr.lookup 42 (.map r2) (.string md) true).run Try.prog (((w.alloc o1).alloc o2).alloc o3) = .ok (.tuple #[.int .i64 ((J2.getD 0 : Nat) : Int), .bool J2.isSome]) (((w.alloc o1).alloc o2).alloc o3) := fun o1 o2 o3 => by
    subst hJ2
    exact (((S.grown (World.grownBy_alloc _ o1 none)).grown (World.grownBy_alloc _ o2 none)).grown (World.grownBy_alloc _ o3 none)).mp2.look2 law9 Try.underlying42 trivial hkl2
  have hlk3 : ∀ wr q n, In w wr (.slice a cs.length cap) (.map r1) (.map r2) cs ml md → (Instr.lookup 42 (.map r2) (.string (md.extract q md.size)) true).run Try.prog (wr.drewN n) = .ok (.tuple #[.int .i64 (((f2 cs (tail md q)).getD 0 : Nat) : Int), .bool (f2 cs (tail md q)).isSome]) (wr.drewN n) := fun wr q n hin =>
    (S.grown (hin.drewN n).grown).mp2.look2 law9 Try.underlying42 trivial (hkl3 q)
  have HL3 := hidden hlk3
  have HF := hidden (Found.start cs ml md)
  rw [← hJ1, ← hJ2] at HF
  have hj1 : ∀ i, J1 = some i → i < cs.length := fun i h => by rw [hJ1] at h; exact (f1_some h).1
  have hj2 : ∀ i, J2 = some i → i < cs.length := fun i h => by rw [hJ2] at h; exact (f2_some h).1
  have HJ1 := hidden hJ1
  have HJ2 := hidden hJ2
  clear hJ1 hJ2 hlk3 hkl hkl2 hkl3
  go_enter Try.func27, Try.ntmps27
  go_upto_if 27 with fail
  go_cut [7] from 28 to 28 (fun b wx => b = .int .i64 ((J1.getD cs.length : Nat) : Int) ∧ wx = ((w.alloc (.cells #[.slice a cs.length cap, .map r1, .map r2, .int .i64 (labels cs : Nat)] 44)).alloc (.cells #[.string ml, .string md] 50)).alloc (.cells #[.string ⟨#[]⟩, .string ⟨#[]⟩, .string ⟨#[]⟩] 46))
  case first =>
    cases J1 with
    | none =>
      go_wp2
      go_meet
      exact ⟨rfl, rfl⟩
    | some i =>
      go_wp2
      go_meet
      exact ⟨rfl, rfl⟩
  case rest =>
    have hb1 : J1.getD cs.length ≤ cs.length := by
      cases J1 with
      | none => exact Nat.le_refl _
      | some i => exact Nat.le_of_lt (hj1 i rfl)
    obtain ⟨b1, hb1e⟩ : ∃ b, b = J1.getD cs.length := ⟨_, rfl⟩
    obtain ⟨hu, rfl⟩ := hcut
    rw [← hb1e] at hu hb1 HF
    subst hu
    clear hb1e hlk1 hj1 HJ1
    have HB : (J2 = none ∧ Hid (Found cs ml md md.size b1)) ∨ (∃ j, J2 = some j ∧ j < b1 ∧ Hid (Found cs ml md md.size j)) ∨ (∃ j, J2 = some j ∧ ¬ j < b1 ∧ Hid (Found cs ml md md.size b1)) := by
      cases J2 with
      | none => exact Or.inl ⟨rfl, HF⟩
      | some j =>
        by_cases h : j < b1
        · refine Or.inr (Or.inl ⟨j, rfl, h, ?_⟩)
          simpa [upd, h] using HF
        · refine Or.inr (Or.inr ⟨j, rfl, h, ?_⟩)
          simpa [upd, h] using HF
    clear HF HJ2
    go_upto_region 7 with fail
    go_cut [42] from 37 to 41 (fun t wx => (∃ c : Bool, t = .bool c ∧ Found cs ml md md.size (if c then J2.getD 0 else b1)) ∧ wx = ((w.alloc (.cells #[.slice a cs.length cap, .map r1, .map r2, .int .i64 (labels cs : Nat)] 44)).alloc (.cells #[.string ml, .string md] 50)).alloc (.cells #[.string ⟨#[]⟩, .string ⟨#[]⟩, .string ⟨#[]⟩] 46))
    case first =>
      rcases HB with ⟨rfl, HF⟩ | ⟨j, rfl, hjb, HF⟩ | ⟨j, rfl, hjb, HF⟩
      · go_wp2
        go_meet
        exact ⟨⟨false, rfl, HF⟩, rfl⟩
      · go_wp2
        go_meet
        exact ⟨⟨true, by simp, HF⟩, rfl⟩
      · go_wp2
        go_meet
        exact ⟨⟨false, rfl, HF⟩, rfl⟩
    case rest =>
      clear HB
      obtain ⟨⟨t, rfl, ht⟩, rfl⟩ := hcut
      have HT := hidden ht
      clear ht
      go_upto_if 42 with fail
      go_cut [7] from 43 to 43 (fun b wx => (∃ best : Nat, b = .int .i64 best ∧ Found cs ml md md.size best) ∧ wx = ((w.alloc (.cells #[.slice a cs.length cap, .map r1, .map r2, .int .i64 (labels cs : Nat)] 44)).alloc (.cells #[.string ml, .string md] 50)).alloc (.cells #[.string ⟨#[]⟩, .string ⟨#[]⟩, .string ⟨#[]⟩] 46))
      case first =>
        cases t with
        | true =>
          go_wp2
          go_meet
          exact ⟨⟨_, rfl, by simpa using HT.out⟩, rfl⟩
        | false =>
          go_wp2
          go_meet
          exact ⟨⟨_, rfl, by simpa using HT.out⟩, rfl⟩
      case rest =>
        clear HT hlk2 hj2
        obtain ⟨⟨best0, rfl, hF0⟩, rfl⟩ := hcut
        have HF0 := hidden hF0
        clear hF0
        go_wp2
        go_loopw [7, 12, 13, 14, 15] (fun bv iv lv _ _ wr => ∃ (k best : Nat), bv = .int .i64 best ∧ lv = .int .i64 (dots (tail md k) : Nat) ∧ k ≤ md.size ∧ ((k = 0 ∧ iv = .int .i64 (-1)) ∨ ∃ q : Nat, k = q + 1 ∧ iv = .int .i64 q) ∧ Found cs ml md k best ∧ dots (tail md k) ≤ labels cs ∧
          In w wr (.slice a cs.length cap) (.map r1) (.map r2) cs ml md) (fun _ iv _ _ _ _ => ((intOf iv) + 1).toNat)
        case atStart =>
          refine ⟨md.size, best0, rfl, by rw [dots_tail_end]; rfl, Nat.le_refl _, before md.size, HF0, by rw [dots_tail_end]; omega, In.start _ _ _ _ _ _ _⟩
        case round =>
          obtain ⟨k, best, rfl, rfl, hk, hiv, hF, hle, hin⟩ := hrel
          have HF := hidden hF
          have hbl := hF.le
          have k0 : wr.cell? ⟨w.heap.size, 0, none⟩ = some (.slice a cs.length cap) := by rw [cell_lit hin.o1]; rfl
          have k2 : wr.cell? ⟨w.heap.size, 2, none⟩ = some (.map r2) := by rw [cell_lit hin.o1]; rfl
          have k3 : wr.cell? ⟨w.heap.size, 3, none⟩ = some (.int .i64 (labels cs : Nat)) := by rw [cell_lit hin.o1]; rfl
          have kd : wr.cell? ⟨w.heap.size + 1, 1, none⟩ = some (.string md) := by rw [cell_lit hin.o2]; rfl
          have t0 : wr.cell? ⟨w.heap.size + 1 + 1, 0, none⟩ = some (.string ⟨#[]⟩) := by rw [cell_lit hin.o3]; rfl
          have t1 : wr.cell? ⟨w.heap.size + 1 + 1, 1, none⟩ = some (.string ⟨#[]⟩) := by rw [cell_lit hin.o3]; rfl
          have t2 : wr.cell? ⟨w.heap.size + 1 + 1, 2, none⟩ = some (.string ⟨#[]⟩) := by rw [cell_lit hin.o3]; rfl
          have z0 : wr.frozen? ⟨w.heap.size + 1 + 1, 0, none⟩ = false := free_lit hin.o3 0
          have z1 : wr.frozen? ⟨w.heap.size + 1 + 1, 1, none⟩ = false := free_lit hin.o3 1
          have z2 : wr.frozen? ⟨w.heap.size + 1 + 1, 2, none⟩ = false := free_lit hin.o3 2
          have zs := lt_block hin.o3
          have S' := S.grown hin.grown
          rcases hiv with ⟨rfl, rfl⟩ | ⟨q, rfl, rfl⟩
          · have HE := hidden (hF.first (Or.inl rfl))
            clear hF
            by_cases hb : best < cs.length
            · obtain ⟨g, rfl, gl, x0, x1, x2⟩ := con_cells S'.own best hb
              go_wp2
              refine bodyPost_ret (v := .tuple #[.agg #[.string cs[best].t, .string cs[best].l, .string cs[best].d], .bool true]) ?_ rfl ⟨?_, hin.wrote _ _ _⟩
              · rw [results_cell_tmp (fn := Try.f27) (p := 4) (u := 5) (ty := 46) rfl]
                simp [go_sem, t0, t1, t2]
              · obtain ⟨e1, e2⟩ := hit_at hb HE.out
                rw [e1, e2]
            · have hbe : best = cs.length := by omega
              subst hbe
              go_wp2
              refine bodyPost_ret (v := .tuple #[.agg #[.string ⟨#[]⟩, .string ⟨#[]⟩, .string ⟨#[]⟩], .bool false]) ?_ rfl ⟨?_, hin.wrote _ _ _⟩
              · rw [results_cell_tmp (fn := Try.f27) (p := 4) (u := 5) (ty := 46) rfl]
                simp [go_sem, t0, t1, t2]
              · obtain ⟨e1, e2⟩ := hit_none HE.out
                rw [e1, e2]
          · have hd1 := dots_tail md q hk
            by_cases hlt : dots (tail md (q + 1)) < labels cs
            · clear hF
              generalize hlabe : dots (tail md (q + 1)) = lab at hd1 hlt hle ⊢
              by_cases he : md[q] = 46
              · rw [if_pos he] at hd1
                have hd2 := hidden hd1
                clear hd1 hlabe
                have hlk := fun n => HL3.out wr q n hin
                have hq1 : q ≤ md.size := by omega
                have hq2 : (q : Int) ≤ md.size := by omega
                go_wp2
                go_quiet (fail)
                have HD := hidden (HF.out.dot hk he)
                clear hlk HF
                generalize f2 cs (tail md q) = J at HD ⊢
                rcases J with _ | j
                · go_wp2
                  go_roundw
                  case rel => exact ⟨q, best, rfl, by rw [hd2.out]; rfl, by omega, before q, HD.out, by rw [hd2.out]; omega, hin.drewN _⟩
                  case measure => simp [intOf]
                · by_cases hjb : j < best
                  · have HD2 : Hid (Found cs ml md q j) := by unfold Hid; simpa [upd, hjb] using HD.out
                    clear HD
                    go_wp2
                    go_roundw
                    case rel => exact ⟨q, j, rfl, by rw [hd2.out]; rfl, by omega, before q, HD2.out, by rw [hd2.out]; omega, hin.drewN _⟩
                    case measure => simp [intOf]
                  · have HD2 : Hid (Found cs ml md q best) := by unfold Hid; simpa [upd, hjb] using HD.out
                    clear HD
                    go_wp2
                    go_roundw
                    case rel => exact ⟨q, best, rfl, by rw [hd2.out]; rfl, by omega, before q, HD2.out, by rw [hd2.out]; omega, hin.drewN _⟩
                    case measure => simp [intOf]
              · rw [if_neg he] at hd1
                have h1 : ((md[q].toNat : Int) == 46) = false := by
                  rw [beq_eq_false_iff_ne]; intro h; apply he
                  apply UInt8.toNat_inj.1
                  have : (46 : UInt8).toNat = 46 := rfl
                  omega
                have hd2 := hidden hd1
                clear hd1 hlabe
                go_wp2
                go_roundw
                case rel => exact ⟨q, best, rfl, by rw [hd2.out]; rfl, by omega, before q, HF.out.other hk he, by rw [hd2.out]; omega, hin⟩
                case measure => simp [intOf]
            · have HE := hidden (hF.first (Or.inr (Found.over (by omega))))
              clear hF
              by_cases hb : best < cs.length
              · obtain ⟨g, rfl, gl, x0, x1, x2⟩ := con_cells S'.own best hb
                go_wp2
                refine bodyPost_ret (v := .tuple #[.agg #[.string cs[best].t, .string cs[best].l, .string cs[best].d], .bool true]) ?_ rfl ⟨?_, hin.wrote _ _ _⟩
                · rw [results_cell_tmp (fn := Try.f27) (p := 4) (u := 5) (ty := 46) rfl]
                  simp [go_sem, t0, t1, t2]
                · obtain ⟨e1, e2⟩ := hit_at hb HE.out
                  rw [e1, e2]
              · have hbe : best = cs.length := by omega
                subst hbe
                go_wp2
                refine bodyPost_ret (v := .tuple #[.agg #[.string ⟨#[]⟩, .string ⟨#[]⟩, .string ⟨#[]⟩], .bool false]) ?_ rfl ⟨?_, hin.wrote _ _ _⟩
                · rw [results_cell_tmp (fn := Try.f27) (p := 4) (u := 5) (ty := 46) rfl]
                  simp [go_sem, t0, t1, t2]
                · obtain ⟨e1, e2⟩ := hit_none HE.out
                  rw [e1, e2]
end Go.Proofs.Qxb6000491a
