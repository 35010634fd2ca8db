/-
  THE WALK OF (*emailSubtrees).add (29).
-/
import Derived.Test.Qxb6000491aState
import Derived.Test.Qxb6000491aShelf
import Derived.BigCall
import Derived.WalkSpells
import Derived.Deep.RegionLaw
import Derived.Deep.CutRange
import Derived.Deep.QuietTactic
import Derived.Deep.RegionWith
import Derived.BigQuiet
import Derived.WalkLawsBesides
namespace Go.Proofs.Qxb6000491a
open Go.RowKit Go.Maps Go.WideMaps

def conCells (c : Con) : List Value := [.string c.t, .string c.l, .string c.d]

def g1 (cs : List Con) : Value → Option Nat
  | .agg xs => match xs.toList with
    | [.string l, .string d] => f1 cs l d
    | _ => none
  | _ => none
def g2 (cs : List Con) : Value → Option Nat
  | .string d => f2 cs d
  | _ => none

theorem g1_keep (cs : List Con) (c : Con) (h : nilB c.l = true) (u : Value) : g1 (cs ++ [c]) u = g1 cs u := by
  unfold g1
  split
  · split
    · rw [f1_snoc, h]; simp
    · rfl
  · rfl

theorem g2_keep (cs : List Con) (c : Con) (h : nilB c.l = false) (u : Value) : g2 (cs ++ [c]) u = g2 cs u := by
  unfold g2
  split
  · rw [f2_snoc, h]; simp
  · rfl

theorem g1_same (cs : List Con) (c : Con) {i : Nat} (h : f1 cs c.l c.d = some i) (u : Value) : g1 (cs ++ [c]) u = g1 cs u := by
  unfold g1
  split
  · split
    · rename_i l d _
      rw [f1_snoc]
      split
      · rename_i hc
        simp only [Bool.and_eq_true] at hc
        rw [← eqB_iff.1 hc.1.2, ← eqB_iff.1 hc.2, h]; rfl
      · simp
    · rfl
  · rfl

theorem g2_same (cs : List Con) (c : Con) {i : Nat} (h : f2 cs c.d = some i) (u : Value) : g2 (cs ++ [c]) u = g2 cs u := by
  unfold g2
  split
  · rename_i d
    rw [f2_snoc]
    split
    · rename_i hc
      simp only [Bool.and_eq_true] at hc
      rw [← eqB_iff.1 hc.2, h]; rfl
    · simp
  · rfl

theorem g1_new (cs : List Con) (c : Con) (hl : nilB c.l = false) (h : f1 cs c.l c.d = none) : g1 (cs ++ [c]) (.agg #[.string c.l, .string c.d]) = some cs.length := by
  show f1 (cs ++ [c]) c.l c.d = _
  rw [f1_snoc, h, hl, eqB_self, eqB_self]; rfl

theorem g2_new (cs : List Con) (c : Con) (hl : nilB c.l = true) (h : f2 cs c.d = none) : g2 (cs ++ [c]) (.string c.d) = some cs.length := by
  show f2 (cs ++ [c]) c.d = _
  rw [f2_snoc, h, hl, eqB_self]; rfl

theorem agg_list {xs : Array Value} {a b : Value} (h : xs.toList = [a, b]) : Value.agg xs = .agg #[a, b] := by
  congr 1; exact Array.ext' h

theorem g1_other (cs : List Con) (c : Con) (u : Value) (hu : u ≠ .agg #[.string c.l, .string c.d]) : g1 (cs ++ [c]) u = g1 cs u := by
  unfold g1
  split
  · split
    · rename_i xs _ l d hx
      rw [f1_snoc]
      split
      · rename_i hc
        simp only [Bool.and_eq_true] at hc
        exfalso; apply hu
        rw [agg_list hx, eqB_iff.1 hc.1.2, eqB_iff.1 hc.2]
      · simp
    · rfl
  · rfl

theorem g2_other (cs : List Con) (c : Con) (u : Value) (hu : u ≠ .string c.d) : g2 (cs ++ [c]) u = g2 cs u := by
  unfold g2
  split
  · rename_i d
    rw [f2_snoc]
    split
    · rename_i hc
      simp only [Bool.and_eq_true] at hc
      exfalso; apply hu
      rw [eqB_iff.1 hc.2]
    · simp
  · rfl

theorem dotted_pre (d : ByteArray) : dotted d = Lib.hasPrefix d.data.toList [46] := by
  unfold dotted Lib.hasPrefix
  cases d.data.toList with
  | nil => rfl
  | cons a t => simp [List.isPrefixOf]; exact Bool.beq_comm

/-- The subtrees in block s hold the constraints cs; all that they lead to lies from block B on. -/
structure St (B : Nat) (w : World) (s : Nat) (cs : List Con) : Prop where
  lo : B ≤ s
  ex : ∃ v m1 m2, w.heap[s]? = some (.cells #[v, m1, m2, .int .i64 (labels cs : Nat)] 44 (0, 0)) ∧ w.ownsRow B 46 3 v cs.length (cs.flatMap conCells) ∧
    MapIs w B cs.length 50 (fun _ => True) m1 (g1 cs) ∧ MapIs w B cs.length 9 (fun _ => True) m2 (g2 cs) ∧ ∀ b, m1 = .map (some b) → m2 ≠ .map (some b)

theorem St.drew {B s : Nat} {w : World} {cs : List Con} (h : St B w s cs) : St B w.drew s cs := ⟨h.lo, h.ex⟩

theorem info46 : (Try.prog.info? 46).map (fun i => (i.zero, i.size, i.bytes)) = some (some (.agg #[.string ⟨#[]⟩, .string ⟨#[]⟩, .string ⟨#[]⟩]), 3, 48) := by kernel_rfl

theorem ownsRow_shape {w : World} {base : Nat} {e : TypeId} {size : Nat} {v : Value} {n : Nat} {xs : List Value} (h : w.ownsRow base e size v n xs) : ∃ a c, v = .slice a n c := by
  rcases h.2 with ⟨rfl, rfl⟩ | ⟨g, cap, cur, rfl, _⟩
  · exact ⟨_, _, rfl⟩
  · exact ⟨_, _, rfl⟩

/-- append onto an owned row, as one step of a region that draws. -/
theorem step_append_own {P : Program} {ops : Array Oper} {o : Oper} {a : Act} {w : World} {K : Act → World → Prop} {Q : Exit → Act → World → Prop} {E : Prop}
    (hg : o.guard = none) (s x : Operand) (t : TypeId) (hop : o.op = Op.call { callee := Callee.builtin Builtin.append, args := #[s, x], argTypes := #[t, t] })
    (base : Nat) (e : TypeId) (i : TypeInfo) (z : Value) (size bytes : Nat) (h1 : P.underlying t = some (.slice e)) (h2 : P.info? e = some i) (h3 : i.zero = some z) (h4 : i.size = size) (h5 : i.bytes = bytes) (h6 : z.cells.size = size) (h7 : 0 < size)
    (v : Value) (n : Nat) (xs : List Value) (hs : a.eval s = v) (hown : w.ownsRow base e size v n xs)
    (ad : Addr) (m c : Nat) (news : List Value) (hx : a.eval x = .slice (some ad) m c) (hn : news.length = m * size) (hc : ∀ j u, news[j]? = some u → w.cell? (ad.add j) = some u) (h1c : ∀ u ∈ news, u.oneCell' = true)
    (b1 : n + m ≤ maxLen) (b2 : (n + m) * bytes ≤ 140737488355328) (hbase : base ≤ w.heap.size)
    (hK : ∀ v' w', w'.ownsRow base e size v' (n + m) (xs ++ news) → w.grownBy w' v.ownBlock → K (a.put o.dst v') w') :
    if Region.wanted o (yielded ops a.tmps) = true then Oper.wp P o a w K Q else E := by
  have hw : Region.wanted o (yielded ops a.tmps) = true := by simp [Region.wanted, hg]
  rw [if_pos hw]
  obtain ⟨v', w', hrun, r1, r2, _⟩ := run_append_own (P := P) w base t o.type e i z size bytes h1 h2 h3 h4 h5 h6 h7 v n xs hown ad m c news hn hc h1c b1 b2 hbase
  unfold Oper.wp
  simp [execOp, hop, resolve, invoke, builtin, hs, hx, hrun, Result.andThen]
  exact hK v' w' r1 r2

theorem cell_lit {w : World} {b : Nat} {cs : Array Value} {t : TypeId} {fr : Nat × Nat} (h : w.heap[b]? = some (.cells cs t fr)) (j : Nat) : w.cell? ⟨b, j, none⟩ = cs[j]? := by
  simp [World.cell?, h]
theorem free_lit {w : World} {b : Nat} {cs : Array Value} {t : TypeId} (h : w.heap[b]? = some (.cells cs t (0, 0))) (j : Nat) : w.frozen? ⟨b, j, none⟩ = false := by
  simp [World.frozen?, h]
theorem lt_block {w : World} {b : Nat} {o : Obj} (h : w.heap[b]? = some o) : b < w.heap.size := by
  rcases Nat.lt_or_ge b w.heap.size with h' | h'
  · exact h'
  · simp [Array.getElem?_eq_none h'] at h

theorem own_ne {w : World} {base : Nat} {e T : TypeId} {size : Nat} {v : Value} {n : Nat} {xs : List Value} {b : Nat} {cs : Array Value} {fr : Nat × Nat} (hown : w.ownsRow base e size v n xs) (hb : w.heap[b]? = some (.cells cs T fr)) (hTe : T ≠ e) : some b ≠ v.ownBlock := by
  rcases hown.2 with ⟨rfl, _⟩ | ⟨g, cap, cur, rfl, _, hg, _⟩
  · simp [Value.ownBlock]
  · intro h
    simp only [Value.ownBlock, Option.some.injEq] at h
    subst h
    rw [hg] at hb
    simp only [Option.some.injEq, Obj.cells.injEq] at hb
    exact hTe hb.2.1.symm

theorem three_new (w : World) (c : Con) : ∀ j u, (conCells c)[j]? = some u → (w.alloc (.cells #[.string c.t, .string c.l, .string c.d] 46)).cell? ((⟨w.heap.size, 0, none⟩ : Addr).add j) = some u := by
  intro j u hj
  have hb : (w.alloc (.cells #[.string c.t, .string c.l, .string c.d] 46)).heap[w.heap.size]? = some (.cells #[.string c.t, .string c.l, .string c.d] 46 (0, 0)) := heap_alloc_new w _
  have hjl : j < 3 := (List.getElem?_eq_some_iff.1 hj).1
  have e : (⟨w.heap.size, 0, none⟩ : Addr).add j = ⟨w.heap.size, j, none⟩ := by
    unfold Addr.add; split
    · rename_i h; subst h; rfl
    · simp
  rw [e, cell_lit hb, ← hj]
  match j, hjl with
  | 0, _ => rfl
  | 1, _ => rfl
  | 2, _ => rfl

/-- The block of the subtrees behind an append onto the row that they own. -/
theorem block_kept {w w0 w2 : World} {B s : Nat} {cs : Array Value} {v : Value} {n : Nat} {xs : List Value} (hh : w.heap[s]? = some (.cells cs 44 (0, 0))) (hown : w.ownsRow B 46 3 v n xs)
    (h0 : ∀ k, k < w.heap.size → w0.heap[k]? = w.heap[k]?) (hsz : w.heap.size ≤ w0.heap.size) (hg : w0.grownBy w2 v.ownBlock) : w2.heap[s]? = some (.cells cs 44 (0, 0)) :=
  (hg.block s (Nat.lt_of_lt_of_le (lt_block hh) hsz) (own_ne hown hh (by decide))).trans ((h0 s (lt_block hh)).trans hh)

theorem two_new (w : World) (o1 o2 : Obj) : ∀ k, k < w.heap.size → ((w.alloc o1).alloc o2).drew.heap[k]? = w.heap[k]? := by
  intro k hk
  show ((w.alloc o1).alloc o2).heap[k]? = _
  rw [Below.heap_alloc _ _ _ (by simp; omega), Below.heap_alloc _ _ _ hk]

theorem con_one (c : Con) : ∀ u ∈ conCells c, u.oneCell' = true := by
  intro u hu
  simp only [conCells, List.mem_cons, List.not_mem_nil, or_false] at hu
  rcases hu with rfl | rfl | rfl <;> rfl

/-- In mid-add: the constraint is appended, the indexes are not yet turned; the constraint's own box lies at the old heap's end. -/
structure Mid (B : Nat) (w : World) (s : Nat) (cs : List Con) (c : Con) (wx : World) (v m1 m2 : Value) : Prop where
  blk : wx.heap[s]? = some (.cells #[v, m1, m2, .int .i64 (labels cs : Nat)] 44 (0, 0))
  own : wx.ownsRow B 46 3 v (cs.length + 1) ((cs ++ [c]).flatMap conCells)
  mp1 : MapIs wx B cs.length 50 (fun _ => True) m1 (g1 cs)
  mp2 : MapIs wx B cs.length 9 (fun _ => True) m2 (g2 cs)
  dis : ∀ b, m1 = .map (some b) → m2 ≠ .map (some b)
  bel : Below B w wx
  box : wx.heap[w.heap.size]? = some (.cells #[.string c.t, .string c.l, .string c.d] 46 (0, 0))

theorem map_ne {w : World} {B n : Nat} {k : TypeId} {ok : Value → Prop} {b g : Nat} {f : Value → Option Nat} (h : MapIs w B n k ok (.map (some b)) f) {cs : Array Value} {t : TypeId} {fr : Nat × Nat} (hg : w.heap[g]? = some (.cells cs t fr)) : b ≠ g := by
  rcases h with ⟨h, _⟩ | ⟨b', D, hb, _, hown, _⟩
  · cases h
  · simp only [Value.map.injEq, Option.some.injEq] at hb
    subst hb
    intro e
    subst e
    obtain ⟨es, cl, hm, _⟩ := hown
    rw [hg] at hm; cases hm

theorem map_lt {w : World} {B n : Nat} {k : TypeId} {ok : Value → Prop} {b : Nat} {f : Value → Option Nat} (h : MapIs w B n k ok (.map (some b)) f) : B ≤ b ∧ b < w.heap.size := by
  rcases h with ⟨h, _⟩ | ⟨b', D, hb, hB, hown, _⟩
  · cases h
  · simp only [Value.map.injEq, Option.some.injEq] at hb
    subst hb
    exact ⟨hB, hown.lt⟩

/-- A map is not the row that a slice owns. -/
theorem map_own {w : World} {B n m : Nat} {k e : TypeId} {size : Nat} {ok : Value → Prop} {v mv : Value} {f : Value → Option Nat} {xs : List Value} (h : MapIs w B n k ok mv f) (hown : w.ownsRow B e size v m xs) : ∀ b, mv = .map (some b) → some b ≠ v.ownBlock := by
  intro b hb
  subst hb
  rcases hown.2 with ⟨rfl, _⟩ | ⟨g, cap, cur, rfl, _, hg, _⟩
  · simp [Value.ownBlock]
  · intro e
    simp only [Value.ownBlock, Option.some.injEq] at e
    exact map_ne h hg e

/-- Two new blocks, a draw, the append, and the store of the new slice. -/
theorem mid_start {B s : Nat} {w w2 : World} {cs : List Con} {c : Con} {v v2 m1 m2 : Value} {o2 : Obj} (hB : B ≤ s) (hh : w.heap[s]? = some (.cells #[v, m1, m2, .int .i64 (labels cs : Nat)] 44 (0, 0))) (hown : w.ownsRow B 46 3 v cs.length (cs.flatMap conCells))
    (hm1 : MapIs w B cs.length 50 (fun _ => True) m1 (g1 cs)) (hm2 : MapIs w B cs.length 9 (fun _ => True) m2 (g2 cs)) (hdis : ∀ b, m1 = .map (some b) → m2 ≠ .map (some b))
    (hown2 : w2.ownsRow B 46 3 v2 (cs.length + 1) (cs.flatMap conCells ++ conCells c)) (hg : ((w.alloc (.cells #[.string c.t, .string c.l, .string c.d] 46)).alloc o2).drew.grownBy w2 v.ownBlock) :
    Mid B w s cs c (w2.setCell ⟨s, 0, none⟩ v2) v2 m1 m2 := by
  have hslt := lt_block hh
  have g0 : w.grownBy ((w.alloc (.cells #[.string c.t, .string c.l, .string c.d] 46)).alloc o2).drew v.ownBlock := ⟨rfl, rfl, rfl, by show w.heap.size ≤ ((w.alloc _).alloc _).heap.size; simp; omega, fun k hk _ => two_new w _ _ k hk⟩
  have gg : w.grownBy w2 v.ownBlock := g0.trans hg
  have hh2 := block_kept hh hown (two_new w _ o2) (by show w.heap.size ≤ ((w.alloc _).alloc _).heap.size; simp; omega) hg
  have gs : w2.grownBy (w2.setCell ⟨s, 0, none⟩ v2) (some s) := ⟨rfl, rfl, rfl, by simp [World.setCell], fun k _ hk => Below.heap_setCell _ _ _ _ (fun e => hk (by simp [e]))⟩
  have hm1' := hm1.kept gg (map_own hm1 hown)
  have hm2' := hm2.kept gg (map_own hm2 hown)
  refine ⟨?_, ?_, hm1'.kept gs ?_, hm2'.kept gs ?_, hdis, ?_, ?_⟩
  · have := heap_setCell_same w2 s 0 _ 44 v2 hh2
    simpa using this
  · rw [List.flatMap_append]
    have := hown2.kept gs (Or.inr (Ne.symm (own_ne hown2 hh2 (by decide))))
    simpa using this
  · intro b hb e
    subst hb
    exact map_ne hm1' hh2 (Option.some.inj e)
  · intro b hb e
    subst hb
    exact map_ne hm2' hh2 (Option.some.inj e)
  · refine Below.setCell ?_ (by exact hB) _
    exact (Below.refl _ _).grown gg (Nat.le_trans hB (Nat.le_of_lt hslt)) (fun k hk => (hown.lt k hk).1)
  · rw [Below.heap_setCell _ _ _ _ (by show w.heap.size ≠ s; omega)]
    rw [hg.block w.heap.size (by show w.heap.size < ((w.alloc _).alloc _).heap.size; simp; omega) (fun e => by have := (hown.lt w.heap.size e.symm).2; omega)]
    show ((w.alloc _).alloc _).heap[w.heap.size]? = _
    rw [Below.heap_alloc _ _ _ (by simp)]
    exact heap_alloc_new w _

/-- The index by mailboxes, made. -/
theorem mid_map1 {B s : Nat} {w wx : World} {cs : List Con} {c : Con} {v m2 : Value} (hB : B ≤ s) (hBx : B ≤ wx.heap.size) (M : Mid B w s cs c wx v (.map none) m2) :
    Mid B w s cs c ((wx.setCell ⟨s, 1, none⟩ (.map (some wx.heap.size))).alloc (.map #[] 0)) v (.map (some wx.heap.size)) m2 := by
  have hz : (wx.setCell ⟨s, 1, none⟩ (.map (some wx.heap.size))).heap.size = wx.heap.size := by simp [World.setCell]
  have gs : wx.grownBy (wx.setCell ⟨s, 1, none⟩ (.map (some wx.heap.size))) (some s) := ⟨rfl, rfl, rfl, by rw [hz]; exact Nat.le_refl _, fun k _ hk => Below.heap_setCell _ _ _ _ (fun e => hk (by simp [e]))⟩
  have g : wx.grownBy ((wx.setCell ⟨s, 1, none⟩ (.map (some wx.heap.size))).alloc (.map #[] 0)) (some s) := gs.trans (World.grownBy_alloc _ _ _)
  have hf : ∀ u, g1 cs u = none := by
    rcases M.mp1 with ⟨_, h⟩ | ⟨b, _, h, _⟩
    · exact fun u => h u trivial
    · cases h
  refine ⟨?_, M.own.kept g (Or.inr (Ne.symm (own_ne M.own M.blk (by decide)))), ?_, M.mp2.kept g ?_, ?_, ?_, ?_⟩
  · rw [Below.heap_alloc _ _ _ (by rw [hz]; exact lt_block M.blk)]
    have := heap_setCell_same wx s 1 _ 44 (.map (some wx.heap.size)) M.blk
    simpa using this
  · have := MapIs.made (wx.setCell ⟨s, 1, none⟩ (.map (some wx.heap.size))) B (by rw [hz]; exact hBx) 50 (fun _ => True)
    rw [hz] at this
    exact (this.congr (fun u _ => (hf u).symm)).mono (Nat.zero_le _)
  · intro b hb e
    subst hb
    exact map_ne M.mp2 M.blk (Option.some.inj e)
  · intro b hb e
    simp only [Value.map.injEq, Option.some.injEq] at hb
    subst hb
    rw [e] at M
    have := (map_lt M.mp2).2
    omega
  · exact (M.bel.setCell (by exact hB) _).alloc (by rw [hz]; exact hBx) _
  · rw [Below.heap_alloc _ _ _ (by rw [hz]; exact lt_block M.box), Below.heap_setCell _ _ _ _ (fun e => by
      have h1 := M.blk
      have h2 := M.box
      rw [show w.heap.size = s from e] at h2
      rw [h1] at h2
      simp at h2)]
    exact M.box

/-- The index by domains, made. -/
theorem mid_map2 {B s : Nat} {w wx : World} {cs : List Con} {c : Con} {v m1 : Value} (hB : B ≤ s) (hBx : B ≤ wx.heap.size) (M : Mid B w s cs c wx v m1 (.map none)) :
    Mid B w s cs c ((wx.setCell ⟨s, 2, none⟩ (.map (some wx.heap.size))).alloc (.map #[] 0)) v m1 (.map (some wx.heap.size)) := by
  have hz : (wx.setCell ⟨s, 2, none⟩ (.map (some wx.heap.size))).heap.size = wx.heap.size := by simp [World.setCell]
  have gs : wx.grownBy (wx.setCell ⟨s, 2, none⟩ (.map (some wx.heap.size))) (some s) := ⟨rfl, rfl, rfl, by rw [hz]; exact Nat.le_refl _, fun k _ hk => Below.heap_setCell _ _ _ _ (fun e => hk (by simp [e]))⟩
  have g : wx.grownBy ((wx.setCell ⟨s, 2, none⟩ (.map (some wx.heap.size))).alloc (.map #[] 0)) (some s) := gs.trans (World.grownBy_alloc _ _ _)
  have hf : ∀ u, g2 cs u = none := by
    rcases M.mp2 with ⟨_, h⟩ | ⟨b, _, h, _⟩
    · exact fun u => h u trivial
    · cases h
  refine ⟨?_, M.own.kept g (Or.inr (Ne.symm (own_ne M.own M.blk (by decide)))), M.mp1.kept g ?_, ?_, ?_, ?_, ?_⟩
  · rw [Below.heap_alloc _ _ _ (by rw [hz]; exact lt_block M.blk)]
    have := heap_setCell_same wx s 2 _ 44 (.map (some wx.heap.size)) M.blk
    simpa using this
  · intro b hb e
    subst hb
    exact map_ne M.mp1 M.blk (Option.some.inj e)
  · have := MapIs.made (wx.setCell ⟨s, 2, none⟩ (.map (some wx.heap.size))) B (by rw [hz]; exact hBx) 9 (fun _ => True)
    rw [hz] at this
    exact (this.congr (fun u _ => (hf u).symm)).mono (Nat.zero_le _)
  · intro b hb e
    simp only [Value.map.injEq, Option.some.injEq] at e
    rw [hb, ← e] at M
    have := (map_lt M.mp1).2
    omega
  · exact (M.bel.setCell (by exact hB) _).alloc (by rw [hz]; exact hBx) _
  · rw [Below.heap_alloc _ _ _ (by rw [hz]; exact lt_block M.box), Below.heap_setCell _ _ _ _ (fun e => by
      have h1 := M.blk
      have h2 := M.box
      rw [show w.heap.size = s from e] at h2
      rw [h1] at h2
      simp at h2)]
    exact M.box

theorem map_shape {w : World} {B n : Nat} {k : TypeId} {ok : Value → Prop} {mv : Value} {f : Value → Option Nat} (h : MapIs w B n k ok mv f) : ∃ r, mv = .map r := by
  rcases h with ⟨rfl, _⟩ | ⟨b, D, rfl, _⟩
  · exact ⟨_, rfl⟩
  · exact ⟨_, rfl⟩

theorem grown_alloc_drewN (w : World) (o : Obj) (n : Nat) : w.grownBy ((w.alloc o).drewN n) none := by
  have h := World.grownBy_alloc w o none
  exact ⟨h.os, h.tape, h.output, h.size, h.block⟩

theorem grown_drewN (w : World) (n : Nat) : w.grownBy (w.drewN n) none := ⟨rfl, rfl, rfl, Nat.le_refl _, fun _ _ _ => rfl⟩

/-- Late in the add: the indexes are turned; the labels are not. -/
structure Late (B : Nat) (w : World) (s : Nat) (cs : List Con) (c : Con) (wx : World) (v m1 m2 : Value) : Prop where
  blk : wx.heap[s]? = some (.cells #[v, m1, m2, .int .i64 (labels cs : Nat)] 44 (0, 0))
  own : wx.ownsRow B 46 3 v (cs.length + 1) ((cs ++ [c]).flatMap conCells)
  mp1 : MapIs wx B (cs.length + 1) 50 (fun _ => True) m1 (g1 (cs ++ [c]))
  mp2 : MapIs wx B (cs.length + 1) 9 (fun _ => True) m2 (g2 (cs ++ [c]))
  dis : ∀ b, m1 = .map (some b) → m2 ≠ .map (some b)
  bel : Below B w wx
  box : wx.heap[w.heap.size]? = some (.cells #[.string c.t, .string c.l, .string c.d] 46 (0, 0))

theorem Mid.late {B s : Nat} {w wx wy : World} {cs : List Con} {c : Con} {v m1 m2 : Value} (M : Mid B w s cs c wx v m1 m2) (hB : B ≤ s) {row : Option Nat} (g : wx.grownBy wy row) (hrow : ∀ k, row = some k → B ≤ k)
    (hs : some s ≠ row) (hbox : some w.heap.size ≠ row) (hv : v.ownBlock = none ∨ v.ownBlock ≠ row) (h1 : MapIs wy B (cs.length + 1) 50 (fun _ => True) m1 (g1 (cs ++ [c]))) (h2 : MapIs wy B (cs.length + 1) 9 (fun _ => True) m2 (g2 (cs ++ [c]))) :
    Late B w s cs c wy v m1 m2 :=
  ⟨(g.block s (lt_block M.blk) hs).trans M.blk, M.own.kept g hv, h1, h2, M.dis, M.bel.grown g (Nat.le_trans hB (Nat.le_of_lt (lt_block M.blk))) hrow, (g.block _ (lt_block M.box) hbox).trans M.box⟩

theorem own_some {w : World} {base : Nat} {e : TypeId} {size n : Nat} {v : Value} {xs : List Value} {B m : Nat} {k : TypeId} {ok : Value → Prop} {b : Nat} {f : Value → Option Nat} (hown : w.ownsRow base e size v n xs) (h : MapIs w B m k ok (.map (some b)) f) : v.ownBlock = none ∨ v.ownBlock ≠ some b := by
  rcases hown.2 with ⟨rfl, _⟩ | ⟨g, cap, cur, rfl, _, hg, _⟩
  · exact Or.inl rfl
  · right
    intro e
    simp only [Value.ownBlock, Option.some.injEq] at e
    exact map_ne h hg e.symm

/-- Nothing but blocks made since: the key was known (or the map is not this one's). -/
theorem Mid.late_none {B s : Nat} {w wx wy : World} {cs : List Con} {c : Con} {v m1 m2 : Value} (M : Mid B w s cs c wx v m1 m2) (hB : B ≤ s) (g : wx.grownBy wy none)
    (h1 : ∀ u, g1 cs u = g1 (cs ++ [c]) u) (h2 : ∀ u, g2 cs u = g2 (cs ++ [c]) u) : Late B w s cs c wy v m1 m2 :=
  M.late hB g (fun k h => by cases h) (fun h => by cases h) (fun h => by cases h) (by cases v.ownBlock <;> simp) (((M.mp1.kept g (fun _ _ h => by cases h)).congr (fun u _ => h1 u)).mono (Nat.le_succ _)) (((M.mp2.kept g (fun _ _ h => by cases h)).congr (fun u _ => h2 u)).mono (Nat.le_succ _))

/-- A store into the first map. -/
theorem Mid.late_one {B s b : Nat} {w wx wz wy : World} {cs : List Con} {c : Con} {v m2 : Value} (M : Mid B w s cs c wx v (.map (some b)) m2) (hB : B ≤ s) (g0 : wx.grownBy wz none) (g : wz.grownBy wy (some b))
    (h1 : MapIs wy B (cs.length + 1) 50 (fun _ => True) (.map (some b)) (g1 (cs ++ [c]))) (h2 : ∀ u, g2 cs u = g2 (cs ++ [c]) u) : Late B w s cs c wy v (.map (some b)) m2 := by
  have gg : wx.grownBy wy (some b) := (g0.but (some b)).trans g
  refine M.late hB gg (fun k h => ?_) (fun h => map_ne M.mp1 M.blk (Option.some.inj h).symm) (fun h => map_ne M.mp1 M.box (Option.some.inj h).symm) (own_some M.own M.mp1) h1 (((M.mp2.kept gg (fun k hk h => ?_)).congr (fun u _ => h2 u)).mono (Nat.le_succ _))
  · cases h; exact (map_lt M.mp1).1
  · cases h; exact M.dis b rfl hk

/-- A store into the second map. -/
theorem Mid.late_two {B s b : Nat} {w wx wz wy : World} {cs : List Con} {c : Con} {v m1 : Value} (M : Mid B w s cs c wx v m1 (.map (some b))) (hB : B ≤ s) (g0 : wx.grownBy wz none) (g : wz.grownBy wy (some b))
    (h1 : ∀ u, g1 cs u = g1 (cs ++ [c]) u) (h2 : MapIs wy B (cs.length + 1) 9 (fun _ => True) (.map (some b)) (g2 (cs ++ [c]))) : Late B w s cs c wy v m1 (.map (some b)) := by
  have gg : wx.grownBy wy (some b) := (g0.but (some b)).trans g
  refine M.late hB gg (fun k h => ?_) (fun h => map_ne M.mp2 M.blk (Option.some.inj h).symm) (fun h => map_ne M.mp2 M.box (Option.some.inj h).symm) (own_some M.own M.mp2) (((M.mp1.kept gg (fun k hk h => ?_)).congr (fun u _ => h1 u)).mono (Nat.le_succ _)) h2
  · cases h; exact (map_lt M.mp2).1
  · cases h; exact M.dis b hk rfl

theorem Late.st {B s : Nat} {w wx : World} {cs : List Con} {c : Con} {v m1 m2 : Value} (L : Late B w s cs c wx v m1 m2) (hB : B ≤ s) (hl : labelsOf c = 0) : St B wx s (cs ++ [c]) ∧ Below B w wx := by
  refine ⟨⟨hB, v, m1, m2, ?_, by simpa using L.own, by simpa using L.mp1, by simpa using L.mp2, L.dis⟩, L.bel⟩
  rw [labels_snoc, hl, Nat.max_zero]
  exact L.blk

theorem Late.st3 {B s : Nat} {w wx : World} {cs : List Con} {c : Con} {v m1 m2 : Value} (L : Late B w s cs c wx v m1 m2) (hB : B ≤ s) : St B (wx.setCell ⟨s, 3, none⟩ (.int .i64 (labels (cs ++ [c]) : Nat))) s (cs ++ [c]) ∧ Below B w (wx.setCell ⟨s, 3, none⟩ (.int .i64 (labels (cs ++ [c]) : Nat))) := by
  have gs : wx.grownBy (wx.setCell ⟨s, 3, none⟩ (.int .i64 (labels (cs ++ [c]) : Nat))) (some s) := ⟨rfl, rfl, rfl, by simp [World.setCell], fun k _ hk => Below.heap_setCell _ _ _ _ (fun e => hk (by simp [e]))⟩
  refine ⟨⟨hB, v, m1, m2, ?_, by simpa using L.own.kept gs (Or.inr (Ne.symm (own_ne L.own L.blk (by decide)))), ?_, ?_, L.dis⟩, L.bel.setCell (by exact hB) _⟩
  · have := heap_setCell_same wx s 3 _ 44 (.int .i64 (labels (cs ++ [c]) : Nat)) L.blk
    simpa using this
  · have := L.mp1.kept gs (fun b hb e => by subst hb; exact map_ne L.mp1 L.blk (Option.some.inj e))
    simpa using this
  · have := L.mp2.kept gs (fun b hb e => by subst hb; exact map_ne L.mp2 L.blk (Option.some.inj e))
    simpa using this

set_option maxHeartbeats 1000000 in
set_option maxRecDepth 100000 in
theorem add_walk (B s : Nat) (cs : List Con) (c : Con) (w : World) (hst : St B w s cs) (hn : cs.length ≤ 1048576) (hl : c.l.size ≤ maxLen) (hd : c.d.size ≤ maxLen) :
    Calls Try.prog 29 #[.pointer (some ⟨s, 0, none⟩), .agg #[.string c.t, .string c.l, .string c.d]] w fun e w' => e = .returned (.tuple #[]) ∧ St B w' s (cs ++ [c]) ∧ Below B w w' := by
  obtain ⟨hB, v, m1, m2, hh, hown, hm1, hm2, hdis⟩ := hst
  obtain ⟨r1, rfl⟩ := map_shape hm1
  obtain ⟨r2, rfl⟩ := map_shape hm2
  obtain ⟨i0, hi, hz0, hz1, hz2⟩ := info_parts info46
  obtain ⟨a, cap, rfl⟩ := ownsRow_shape hown
  have hslt := lt_block hh
  have c0 : ∀ o1, (w.alloc o1).cell? ⟨s, 0, none⟩ = some (.slice a cs.length cap) := fun o1 => by rw [World.cell?_alloc_past _ _ _ hslt, cell_lit hh]; rfl
  have c0' : w.cell? ⟨s, 0, none⟩ = some (.slice a cs.length cap) := by rw [cell_lit hh]; rfl
  go_enter Try.func29, Try.ntmps29
  go_wp2
  go_cut [] from 15 to 24 (fun wx => ∃ v, Mid B w s cs c wx v (.map r1) (.map r2))
  case first =>
    go_region_law (refine step_append_own rfl (.tmp 19) (.tmp 21) 40 rfl B 46 i0 (.agg #[.string ⟨#[]⟩, .string ⟨#[]⟩, .string ⟨#[]⟩]) 3 48 Try.underlying40 hi hz0 hz1 hz2 rfl (by decide) (.slice a cs.length cap) cs.length (cs.flatMap conCells) (by simp [Act.eval]) ((hown.alloc _).alloc _).drew ⟨w.heap.size + 1, 0, none⟩ 1 1 (conCells c) (by simp [Act.eval]) rfl (by simpa using three_new (w.alloc _) c) (con_one c) (by unfold maxLen; omega) (by omega) (by simp; omega) ?_; intro v2 w2 hown2 hgrow2; obtain ⟨a2, cap2, hv2⟩ := ownsRow_shape hown2; subst hv2; have hh2 := block_kept hh hown (two_new w _ _) (by simp; omega) hgrow2; have k0 : w2.cell? ⟨s, 0, none⟩ = some (.slice a cs.length cap) := (by rw [cell_lit hh2]; rfl); have e0 := free_lit hh2 0)
    all_goals
      go_wp2_with fail
      go_meet
      exact ⟨_, mid_start hB hh hown hm1 hm2 hdis hown2 hgrow2⟩
  case rest =>
    clear c0 c0' hh hown hm1 hm2 hdis hslt
    obtain ⟨v, M⟩ := hcut
    have k1 : wc.cell? ⟨s, 1, none⟩ = some (.map r1) := by rw [cell_lit M.blk]; rfl
    have k2 : wc.cell? ⟨s, 2, none⟩ = some (.map r2) := by rw [cell_lit M.blk]; rfl
    have b1 : wc.cell? ⟨w.heap.size, 1, none⟩ = some (.string c.l) := by rw [cell_lit M.box]; rfl
    have b2 : wc.cell? ⟨w.heap.size, 2, none⟩ = some (.string c.d) := by rw [cell_lit M.box]; rfl
    have fr1 : wc.frozen? ⟨s, 1, none⟩ = false := free_lit M.blk 1
    have fr2 : wc.frozen? ⟨s, 2, none⟩ = false := free_lit M.blk 2
    have sl := lt_block M.blk
    have bl := lt_block M.box
    have hBx : B ≤ wc.heap.size := Nat.le_trans hB (Nat.le_of_lt sl)
    have hmm := @run_makeMap Try.prog
    by_cases hnl : c.l.toList.isEmpty = true
    · have q42 : ∀ (wx : World) (r : Option Nat), (binOp .eql 42 (.map r) (.map none)).run Try.prog wx = .ok (.bool r.isNone) wx := fun wx r => run_eql_map_nil wx _ _ _ r Try.underlying42
      go_upto_if 63 with fail
      go_cut [] from 64 to 67 (fun wx => ∃ b, Mid B w s cs c wx v (.map r1) (.map (some b)))
      case first =>
        cases r2 with
        | none =>
          go_wp2
          go_meet
          exact ⟨_, mid_map2 hB hBx M⟩
        | some b =>
          go_wp2
          go_meet
          exact ⟨b, M⟩
      case rest =>
        clear k1 k2 b1 b2 fr1 fr2 sl bl M hmm q42
        obtain ⟨b, M⟩ := hcut
        have k2 : wc.cell? ⟨s, 2, none⟩ = some (.map (some b)) := by rw [cell_lit M.blk]; rfl
        have b2 : wc.cell? ⟨w.heap.size, 2, none⟩ = some (.string c.d) := by rw [cell_lit M.box]; rfl
        have sl := lt_block M.blk
        have bl := lt_block M.box
        have hkl := key9 c.d hd
        obtain ⟨J, hJ⟩ : ∃ J, J = f2 cs c.d := ⟨_, rfl⟩
        have hlk : ∀ n, (Instr.lookup 42 (.map (some b)) (.string c.d) true).run Try.prog (wc.drewN n) = .ok (.tuple #[.int .i64 ((J.getD 0 : Nat) : Int), .bool J.isSome]) (wc.drewN n) := fun n => by
          subst hJ
          have : MapIs (wc.drewN n) B cs.length 9 (fun _ => True) (.map (some b)) (g2 cs) := M.mp2
          exact this.look2 law9 Try.underlying42 trivial hkl
        have HJ := hidden hJ
        clear hJ
        go_wp2
        go_quiet (fail)
        go_upto_if 79 with fail
        go_cut [] from 80 to 86 (fun wx => Late B w s cs c wx v (.map r1) (.map (some b)))
        case first =>
          have MN : MapIs (wc.drewN (nq + 1)) B cs.length 9 (fun _ => True) (.map (some b)) (g2 cs) := M.mp2
          obtain ⟨w3, hrun, hg3, hfz3, hsz3, hup⟩ := MN.store law9 Try.underlying42 (by unfold maxLen; omega) hkl cs.length hn
          cases J with
          | some i =>
            go_wp2
            go_meet
            have HJ' : some i = f2 cs c.d := HJ
            exact M.late_none hB (grown_drewN wc _) (fun u => (g1_keep cs c hnl u).symm) (fun u => (g2_same cs c HJ'.symm u).symm)
          | none =>
            go_wp2
            go_region
            all_goals
              go_wp2
              go_meet
              have HJ' : none = f2 cs c.d := HJ
              exact M.late_two hB (grown_drewN wc _) hg3 (fun u => (g1_keep cs c hnl u).symm) (hup _ (g2_new cs c hnl HJ'.symm) (fun u hu => g2_other cs c u hu))
        case rest =>
          clear k2 b2 sl bl M hlk HJ
          have L := hcut
          clear hcut
          have b2 : wc.cell? ⟨w.heap.size, 2, none⟩ = some (.string c.d) := by rw [cell_lit L.box]; rfl
          have k3 : wc.cell? ⟨s, 3, none⟩ = some (.int .i64 (labels cs : Nat)) := by rw [cell_lit L.blk]; rfl
          have fr3 : wc.frozen? ⟨s, 3, none⟩ = false := free_lit L.blk 3
          have sl := lt_block L.blk
          have bl := lt_block L.box
          have HP : ∀ wx, Calls Try.prog 31 #[.string c.d, .string ⟨#[46]⟩] wx fun e w' => e = .returned (.bool (dotted c.d)) ∧ w' = wx := fun wx => by
            have := Try.strings_HasPrefix c.d ⟨#[46]⟩ wx
            rw [dotted_pre]; exact this
          have CT : ∀ wx, Calls Try.prog 32 #[.string c.d, .string ⟨#[46]⟩] wx fun e w' => e = .returned (.int .i64 (dots c.d : Nat)) ∧ w' = wx := fun wx => Try.strings_Count_one c.d 46 wx
          have hnl2 : nilB c.l = true := hnl
          by_cases hdot : dotted c.d = true
          · rw [hdot] at HP
            go_wp2_with (go_at_call 31; refine (HP _).mono ?_; rintro _ _ ⟨rfl, rfl⟩)
            have hmax : max ((labels cs : Nat) : Int) ((dots c.d : Nat) : Int) = ((labels (cs ++ [c]) : Nat) : Int) := by
              rw [labels_snoc]
              unfold labelsOf
              rw [hnl2, hdot]
              simp only [Bool.and_self, if_true]
              omega
            go_region_with (go_at_call 32; refine (CT _).mono ?_; rintro _ _ ⟨rfl, rfl⟩)
            all_goals
              go_wp2
              go_end0
              refine ⟨rfl, ?_⟩
              exact ⟨(L.st3 hB).1.drew, (L.st3 hB).2.drew⟩
          · have hdot' : dotted c.d = false := by simpa using hdot
            rw [hdot'] at HP
            go_wp2_with (go_at_call 31; refine (HP _).mono ?_; rintro _ _ ⟨rfl, rfl⟩)
            go_end0
            refine ⟨rfl, ?_⟩
            exact L.st hB (by unfold labelsOf; rw [hdot']; simp)
    · have hnl' : c.l.toList.isEmpty = false := by simpa using hnl
      have q41 : ∀ (wx : World) (r : Option Nat), (binOp .eql 41 (.map r) (.map none)).run Try.prog wx = .ok (.bool r.isNone) wx := fun wx r => run_eql_map_nil wx _ _ _ r Try.underlying41
      go_upto_if 32 with fail
      go_cut [] from 33 to 36 (fun wx => ∃ b, Mid B w s cs c wx v (.map (some b)) (.map r2))
      case first =>
        cases r1 with
        | none =>
          go_wp2
          go_meet
          exact ⟨_, mid_map1 hB hBx M⟩
        | some b =>
          go_wp2
          go_meet
          exact ⟨b, M⟩
      case rest =>
        clear k1 k2 b1 b2 fr1 fr2 sl bl M hmm q41

        obtain ⟨b, M⟩ := hcut
        have k1 : wc.cell? ⟨s, 1, none⟩ = some (.map (some b)) := by rw [cell_lit M.blk]; rfl
        have b1 : wc.cell? ⟨w.heap.size, 1, none⟩ = some (.string c.l) := by rw [cell_lit M.box]; rfl
        have b2 : wc.cell? ⟨w.heap.size, 2, none⟩ = some (.string c.d) := by rw [cell_lit M.box]; rfl
        have sl := lt_block M.blk
        have bl := lt_block M.box
        obtain ⟨kl, hkl⟩ := key50 c.l c.d hl hd
        have MA := hidden M.mp1
        obtain ⟨J, hJ⟩ : ∃ J, J = f1 cs c.l c.d := ⟨_, rfl⟩
        have ML : ∀ o, MapIs (wc.alloc o) B cs.length 50 (fun _ => True) (.map (some b)) (g1 cs) := fun o => M.mp1.kept (World.grownBy_alloc wc o none) (fun _ _ h => by cases h)
        have hlk : ∀ o n, (Instr.lookup 41 (.map (some b)) (.agg #[.string c.l, .string c.d]) true).run Try.prog ((wc.alloc o).drewN n) = .ok (.tuple #[.int .i64 ((J.getD 0 : Nat) : Int), .bool J.isSome]) ((wc.alloc o).drewN n) := fun o n => by
          subst hJ
          have : MapIs ((wc.alloc o).drewN n) B cs.length 50 (fun _ => True) (.map (some b)) (g1 cs) := ML o
          exact this.look2 law50 Try.underlying41 trivial hkl
        have HJ := hidden hJ
        clear hJ
        go_wp2
        go_quiet (fail)
        have MN : MapIs ((wc.alloc (.cells #[.string c.l, .string c.d] 50)).drewN (nq + 1)) B cs.length 50 (fun _ => True) (.map (some b)) (g1 cs) := ML _
        obtain ⟨w3, hrun, hg3, hfz3, hsz3, hup⟩ := MN.store law50 Try.underlying41 (by unfold maxLen; omega) hkl cs.length hn
        have hlab : labelsOf c = 0 := by unfold labelsOf nilB; rw [hnl']; rfl
        cases J with
        | some i =>
          go_wp2
          have HJ' : some i = f1 cs c.l c.d := HJ
          refine bodyPost_ret (results_none rfl _ _ _) rfl ⟨rfl, ?_⟩
          exact (M.late_none (wy := (wc.alloc (.cells #[.string c.l, .string c.d] 50)).drewN nq) hB (grown_alloc_drewN wc _ _) (fun u => (g1_same cs c HJ'.symm u).symm) (fun u => (g2_keep cs c hnl' u).symm)).st hB hlab
        | none =>
          go_wp2
          go_region
          go_wp2
          have HJ' : none = f1 cs c.l c.d := HJ
          refine bodyPost_ret (results_none rfl _ _ _) rfl ⟨rfl, ?_⟩
          exact (M.late_one hB (wz := (wc.alloc (.cells #[.string c.l, .string c.d] 50)).drewN (nq + 1)) (grown_alloc_drewN wc _ _) hg3 (hup _ (g1_new cs c hnl' HJ'.symm) (fun u hu => g1_other cs c u hu)) (fun u => (g2_keep cs c hnl' u).symm)).st hB hlab
end Go.Proofs.Qxb6000491a
