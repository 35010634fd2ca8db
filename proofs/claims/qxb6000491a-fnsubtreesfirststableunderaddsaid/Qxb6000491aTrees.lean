/-
  ZZFirst (21), ZZAdd (24), zzBuild (20).
-/
import Derived.Test.Qxb6000491aFirst
namespace Go.Proofs.Qxb6000491a
open Go.RowKit Go.Maps Go.WideMaps

theorem St.sub {B s : Nat} {w : World} {cs : List Con} (h : St B w s cs) : ∃ v m1 m2, w.heap[s]? = some (.cells #[v, m1, m2, .int .i64 (labels cs : Nat)] 44 (0, 0)) ∧ Sub B w v m1 m2 cs := by
  obtain ⟨_, v, m1, m2, hh, hown, hm1, hm2, _⟩ := h
  exact ⟨v, m1, m2, hh, hown, hm1, hm2⟩

theorem St.grown {B s : Nat} {w w' : World} {cs : List Con} (h : St B w s cs) (g : w.grownBy w' none) : St B w' s cs := by
  obtain ⟨hB, v, m1, m2, hh, hown, hm1, hm2, hd⟩ := h
  exact ⟨hB, v, m1, m2, (g.block s (lt_block hh) (fun e => by cases e)).trans hh, hown.kept g (by cases v.ownBlock <;> simp), hm1.kept g (fun _ _ e => by cases e), hm2.kept g (fun _ _ e => by cases e), hd⟩

theorem results_tmp4 {fn : Func} {t u v x : Tmp} (h : fn.results = #[.tmp t, .tmp u, .tmp v, .tmp x]) (tmps : Array Value) (P : Program) (w : World) :
    (results fn tmps).run P w = .ok (.tuple #[tmps.getD t undef, tmps.getD u undef, tmps.getD v undef, tmps.getD x undef]) w := by
  simp [results, h]

theorem zzadd_walk (B s : Nat) (cs : List Con) (c : Con) (w : World) (hst : St B w s cs) (hn : cs.length ≤ 1048576) (hl : c.l.size ≤ maxLen) (hd : c.d.size ≤ maxLen) :
    Calls Try.prog 24 #[.pointer (some ⟨s, 0, none⟩), .string c.t, .string c.l, .string c.d] w fun e w' => e = .returned (.tuple #[]) ∧ St B w' s (cs ++ [c]) ∧ Below B w w' := by
  go_enter Try.func24, Try.ntmps24
  go_wp2_with fail
  refine (add_walk B s cs c w hst hn hl hd).mono ?_
  rintro _ w' ⟨rfl, h1, h2⟩
  go_wp2
  go_end0
  exact ⟨rfl, h1, h2⟩

theorem zzfirst_walk (B s : Nat) (cs : List Con) (ml md : ByteArray) (w : World) (hst : St B w s cs) (hl : ml.size ≤ maxLen) (hd : md.size ≤ 1048576) (hlab : labels cs ≤ 1048576) :
    Calls Try.prog 21 #[.pointer (some ⟨s, 0, none⟩), .string ml, .string md] w fun e w' =>
      e = .returned (.tuple #[.string (hit cs ml md).t, .string (hit cs ml md).l, .string (hit cs ml md).d, .bool (found cs ml md)]) ∧ w.grownBy w' none := by
  obtain ⟨v, m1, m2, hh, S⟩ := hst.sub
  have k0 : w.cell? ⟨s, 0, none⟩ = some v := by rw [cell_lit hh]; rfl
  have k1 : w.cell? ⟨s, 1, none⟩ = some m1 := by rw [cell_lit hh]; rfl
  have k2 : w.cell? ⟨s, 2, none⟩ = some m2 := by rw [cell_lit hh]; rfl
  have k3 : w.cell? ⟨s, 3, none⟩ = some (.int .i64 (labels cs : Nat)) := by rw [cell_lit hh]; rfl
  have sl := lt_block hh
  have F := first_walk B cs ml md w v m1 m2 S hl hd hlab
  generalize hit cs ml md = hc at F ⊢
  generalize found cs ml md = b at F ⊢
  go_enter Try.func21, Try.ntmps21
  go_wp2_with fail
  refine F.mono ?_
  rintro _ w' ⟨rfl, hg⟩
  go_wp2
  go_quiet (fail)
  go_wp2
  refine bodyPost_ret (results_tmp4 rfl _ _ _) rfl ⟨rfl, ?_⟩
  exact hg.trans (grown_alloc_drewN _ _ _)

/-- The first n constraints. -/
def cons (con : Nat → Con) (n : Nat) : List Con := (List.range n).map con

theorem cons_succ (con : Nat → Con) (n : Nat) : cons con (n + 1) = cons con n ++ [con n] := by
  unfold cons; rw [List.range_succ, List.map_append]; rfl
theorem cons_length (con : Nat → Con) (n : Nat) : (cons con n).length = n := by simp [cons]

theorem st_start (w : World) : St w.heap.size (w.alloc (.cells #[.slice none 0 0, .map none, .map none, .int .i64 0] 44)) w.heap.size [] := by
  refine ⟨Nat.le_refl _, _, _, _, heap_alloc_new w _, ⟨rfl, Or.inl ⟨rfl, rfl⟩⟩, Or.inl ⟨rfl, fun u _ => ?_⟩, Or.inl ⟨rfl, fun u _ => ?_⟩, fun b h => by cases h⟩
  · unfold g1; split
    · split <;> rfl
    · rfl
  · unfold g2; split <;> rfl

set_option maxHeartbeats 1000000 in
set_option maxRecDepth 100000 in
theorem build_walk (w : World) (n : Nat) (con : Nat → Con) (a0 a1 a2 : Option Addr) (l0 l1 l2 c0 c1 c2 : Nat) (hn : n ≤ 1048576) (h0 : n ≤ l0) (h1 : n ≤ l1) (h2 : n ≤ l2)
    (x0 : ∀ i, i < n → ∃ g, a0 = some ⟨g, 0, none⟩ ∧ g < w.heap.size ∧ w.cell? ⟨g, i, none⟩ = some (.string (con i).t))
    (x1 : ∀ i, i < n → ∃ g, a1 = some ⟨g, 0, none⟩ ∧ g < w.heap.size ∧ w.cell? ⟨g, i, none⟩ = some (.string (con i).l))
    (x2 : ∀ i, i < n → ∃ g, a2 = some ⟨g, 0, none⟩ ∧ g < w.heap.size ∧ w.cell? ⟨g, i, none⟩ = some (.string (con i).d))
    (hsz : ∀ i, i < n → (con i).l.size ≤ maxLen ∧ (con i).d.size ≤ maxLen) :
    Calls Try.prog 20 #[.slice a0 l0 c0, .slice a1 l1 c1, .slice a2 l2 c2, .int .i64 0, .int .i64 n] w fun e w' =>
      e = .returned (.pointer (some ⟨w.heap.size, 0, none⟩)) ∧ St w.heap.size w' w.heap.size (cons con n) ∧ Below w.heap.size w w' := by
  have X0 := hidden x0
  have X1 := hidden x1
  have X2 := hidden x2
  have HS := hidden hsz
  clear x0 x1 x2 hsz
  go_enter Try.func20, Try.ntmps20
  go_wp2
  go_loopw [12] (fun t wr => ∃ k : Nat, k ≤ n ∧ t = .int .i64 k ∧ St w.heap.size wr w.heap.size (cons con k) ∧ Below w.heap.size w wr) (fun t _ => n - (intOf t).toNat)
  case atStart => exact ⟨0, Nat.zero_le _, rfl, st_start w, (Below.refl _ w).alloc (Nat.le_refl _) _⟩
  case round =>
    obtain ⟨k, hk, rfl, hst, hbel⟩ := hrel
    by_cases hlt : k < n
    · obtain ⟨e0, rfl, p0, q0⟩ := X0.out k hlt
      obtain ⟨e1, rfl, p1, q1⟩ := X1.out k hlt
      obtain ⟨e2, rfl, p2, q2⟩ := X2.out k hlt
      obtain ⟨s1, s2⟩ := HS.out k hlt
      have y0 : wr.cell? ⟨e0, k, none⟩ = some (.string (con k).t) := (hbel.cell (p := ⟨e0, k, none⟩) p0).trans q0
      have y1 : wr.cell? ⟨e1, k, none⟩ = some (.string (con k).l) := (hbel.cell (p := ⟨e1, k, none⟩) p1).trans q1
      have y2 : wr.cell? ⟨e2, k, none⟩ = some (.string (con k).d) := (hbel.cell (p := ⟨e2, k, none⟩) p2).trans q2
      have hbs := hbel.size
      have r0 : k < l0 := by omega
      have r1 : k < l1 := by omega
      have r2 : k < l2 := by omega
      have hst' := hst.drew
      clear q0 q1 q2
      have AD := fun wx (hx : St w.heap.size wx w.heap.size (cons con k)) => zzadd_walk w.heap.size w.heap.size (cons con k) (con k) wx hx (by rw [cons_length]; omega) s1 s2
      have A2 := AD _ hst'
      rw [← cons_succ] at A2
      clear AD hst
      go_wp2
      go_region_with (go_at_call 24; refine A2.mono ?_; rintro _ w2 ⟨rfl, g1, g2⟩)
      all_goals
        have hb2 := hbel.drew.trans g2
        have hbs := hb2.size
        clear y0 y1 y2 A2 hst' hbel
        go_wp2
        go_roundw
        case rel => exact ⟨k + 1, by omega, by go_num, g1, hb2⟩
        case measure => simp [intOf]; omega
    · have : k = n := by omega
      subst this
      go_wp2
      go_ret
      exact ⟨rfl, hst, hbel⟩
end Go.Proofs.Qxb6000491a
