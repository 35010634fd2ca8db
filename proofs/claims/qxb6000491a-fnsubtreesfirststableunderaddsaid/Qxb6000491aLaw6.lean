/-
  THE LAW FnSubtreesFirstMatchesLinearScan (6).
-/
import Derived.Test.Qxb6000491aBytes
namespace Go.Proofs.Qxb6000491a
open Go.RowKit Go.Maps Go.WideMaps

theorem Txt.kept {w w' : World} {a : Option Addr} {n : Nat} {f : Nat → ByteArray} (h : Txt w a n f) (hb : Below w.heap.size w w') : Txt w' a n f := fun i hi => by
  obtain ⟨b, off, e, hlt, hc, hz⟩ := h i hi
  exact ⟨b, off, e, Nat.lt_of_lt_of_le hlt hb.size, (hb.cell (p := ⟨b, off + i, none⟩) hlt).trans hc, hz⟩

theorem Copy.kept {w w' : World} {a : Option Addr} {n : Nat} {f : Nat → ByteArray} (h : Copy w a n f) (hb : Below w.heap.size w w') : Copy w' a n f := fun i hi => by
  obtain ⟨g, e, hlt, hc⟩ := h i hi
  exact ⟨g, e, Nat.lt_of_lt_of_le hlt hb.size, (hb.cell (p := ⟨g, i, none⟩) hlt).trans hc⟩

theorem below_grown {w w' : World} (g : w.grownBy w' none) : Below w.heap.size w w' := (Below.refl _ w).grown g (Nat.le_refl _) (fun k h => by cases h)

theorem below_drewN {B : Nat} {w w' : World} (h : Below B w w') (n : Nat) : Below B w (w'.drewN n) := ⟨h.os, h.tape, h.output, h.size, h.block⟩

theorem Copy.drewN {w : World} {a : Option Addr} {n : Nat} {f : Nat → ByteArray} (h : Copy w a n f) (m : Nat) : Copy (w.drewN m) a n f := h

theorem dots_le (d : ByteArray) : dots d ≤ d.size := List.count_le_length

theorem labelsOf_le (c : Con) : labelsOf c ≤ c.d.size := by
  unfold labelsOf
  split
  · exact dots_le _
  · exact Nat.zero_le _

theorem labels_le (con : Nat → Con) (r : Nat) (h : ∀ i, i < r → (con i).d.size ≤ 1048576) : labels (cons con r) ≤ 1048576 := by
  induction r with
  | zero => exact Nat.zero_le _
  | succ r ih =>
    rw [cons_succ, labels_snoc]
    have h1 := ih (fun i hi => h i (by omega))
    have h2 := labelsOf_le (con r)
    have h3 := h r (by omega)
    omega

theorem cons_at (con : Nat → Con) (r k : Nat) (hk : k < (cons con r).length) : (cons con r)[k] = con k := by
  simp [cons]

theorem scan_hit (con : Nat → Con) (r k : Nat) (ml md : ByteArray) (hk : k < r) (hb : ∀ j, j < k → covers (con j) ml md = false) (hc : covers (con k) ml md = true) : hit (cons con r) ml md = con k ∧ found (cons con r) ml md = true := by
  have hkl : k < (cons con r).length := by rw [cons_length]; exact hk
  have e : k = firstIdx (cons con r) ml md := by
    rcases Nat.lt_trichotomy k (firstIdx (cons con r) ml md) with h | h | h
    · have := firstIdx_before h hkl
      rw [cons_at, hc] at this; cases this
    · exact h
    · have hl : firstIdx (cons con r) ml md < (cons con r).length := by omega
      have := firstIdx_cov hl
      rw [cons_at, hb _ h] at this; cases this
  obtain ⟨h1, h2⟩ := hit_at hkl e
  rw [cons_at] at h1
  exact ⟨h1, h2⟩

theorem scan_none (con : Nat → Con) (r : Nat) (ml md : ByteArray) (hb : ∀ j, j < r → covers (con j) ml md = false) : hit (cons con r) ml md = ⟨⟨#[]⟩, ⟨#[]⟩, ⟨#[]⟩⟩ ∧ found (cons con r) ml md = false := by
  apply hit_none
  rcases Nat.lt_or_ge (firstIdx (cons con r) ml md) (cons con r).length with h | h
  · have h2 := firstIdx_cov h
    rw [cons_at, hb _ (by rw [cons_length] at h; exact h)] at h2
    cases h2
  · have := firstIdx_le (cons con r) ml md
    omega

set_option maxHeartbeats 2000000 in
set_option maxRecDepth 100000 in
theorem law6_walk (con : Nat → Con) (a0 a1 a2 : Option Addr) (n0 c0 n1 c1 n2 c2 : Nat) (ml md : ByteArray) (w : World) (z0 : a0 = none → n0 = 0 ∧ c0 = 0) (z1 : a1 = none → n1 = 0 ∧ c1 = 0) (z2 : a2 = none → n2 = 0 ∧ c2 = 0)
    (H0 : Txt w a0 n0 (fun i => (con i).t)) (H1 : Txt w a1 n1 (fun i => (con i).l)) (H2 : Txt w a2 n2 (fun i => (con i).d)) :
    Calls Try.prog 6 #[.slice a0 n0 c0, .slice a1 n1 c1, .slice a2 n2 c2, .string ml, .string md] w fun e w' => e = .returned (.bool true) ∧ Below w.heap.size w w' := by
  go_enter Try.func6, Try.ntmps6
  go_wp2_with fail
  refine (bytes15_walk a0 n0 c0 _ a1 n1 c1 _ a2 n2 c2 _ ml md w H0 H1 H2).mono ?_
  rintro _ w ⟨rfl | rfl, rfl⟩
  · by_cases m0 : 1048576 < n0
    · go_wp2
      go_ret
      exact ⟨rfl, Below.refl _ _⟩
    · by_cases m1 : 1048576 < n1
      · go_wp2
        go_ret
        exact ⟨rfl, Below.refl _ _⟩
      · by_cases m2 : 1048576 < n2
        · go_wp2
          go_ret
          exact ⟨rfl, Below.refl _ _⟩
        · go_wp2_with fail
          refine (addslice_walk 0 a0 n0 c0 _ _ (by omega) (by omega) H0).mono ?_
          rintro _ w ⟨t1, rfl, u1, i1, rfl⟩
          go_wp2_with fail
          refine (addslice_walk t1 a1 n1 c1 _ _ u1 (by omega) H1).mono ?_
          rintro _ w ⟨t2, rfl, u2, i2, rfl⟩
          go_wp2_with fail
          refine (addslice_walk t2 a2 n2 c2 _ _ u2 (by omega) H2).mono ?_
          rintro _ w ⟨t3, rfl, u3, i3, rfl⟩
          go_wp2_with fail
          refine (addlen_walk t3 ml u3 _).mono ?_
          rintro _ w ⟨t4, rfl, u4, i4, rfl⟩
          go_wp2_with fail
          refine (addlen_walk t4 md u4 _).mono ?_
          rintro _ w ⟨t5, rfl, u5, i5, rfl⟩
          by_cases m5 : 1048576 < t5
          · go_wp2
            go_ret
            exact ⟨rfl, Below.refl _ _⟩
          · obtain ⟨v4, y5⟩ := i5 (by omega)
            obtain ⟨v3, y4⟩ := i4 v4
            obtain ⟨v2, y3⟩ := i3 v3
            obtain ⟨v1, y2⟩ := i2 v2
            have Y2 := hidden y2
            have Y3 := hidden y3
            clear i1 i2 i3 i4 i5 y2 y3
            go_wp2_with fail
            refine (clone_walk a0 n0 c0 _ w (by omega) z0 H0).mono ?_
            rintro _ w1 ⟨d0, e0, rfl, C0, b1⟩
            have H1' := H1.kept b1
            have H2' := H2.kept b1
            clear H0 H1 H2
            go_wp2_with fail
            refine (clone_walk a1 n1 c1 _ w1 (by omega) z1 H1').mono ?_
            rintro _ w2 ⟨d1, e1, rfl, C1, b2⟩
            have H2 := H2'.kept b2
            have C0' := C0.kept b2
            have b2' := b1.trans (b2.mono b1.size)
            clear H1' H2' C0 b1 b2
            go_wp2_with fail
            refine (clone_walk a2 n2 c2 _ w2 (by omega) z2 H2).mono ?_
            rintro _ w3 ⟨d2, e2, rfl, C2, b3⟩
            have C0 := C0'.kept b3
            have C1' := C1.kept b3
            have b3' := b2'.trans (b3.mono b2'.size)
            clear C0' C1 b2' b3 H2 z0 z1 z2
            go_wp2_with fail
            refine (min3_walk n0 n1 n2 w3).mono ?_
            rintro _ w3 ⟨r, rfl, r0, r1, r2, rfl⟩
            go_wp2_with fail
            refine (build_walk w3 r con d0 d1 d2 n0 n1 n2 e0 e1 e2 (by omega) r0 r1 r2 (fun i hi => C0 i (by omega)) (fun i hi => C1' i (by omega)) (fun i hi => C2 i (by omega)) (fun i hi => ⟨by have := Y2.out i (by omega); unfold maxLen; omega, by have := Y3.out i (by omega); unfold maxLen; omega⟩)).mono ?_
            rintro _ w4 ⟨rfl, S4, b4⟩
            have D0 := C0.kept b4
            have D1 := C1'.kept b4
            have D2 := C2.kept b4
            have b4' := b3'.trans (b4.mono b3'.size)
            clear C0 C1' C2 b3' b4
            go_wp2_with fail
            have ZF := zzfirst_walk w3.heap.size w3.heap.size (cons con r) ml md w4 S4 (by unfold maxLen; omega) y5 (labels_le con r (fun i hi => Y3.out i (by omega)))
            have hHN : ∀ k, k < r → (∀ j, j < k → covers (con j) ml md = false) → covers (con k) ml md = true → hit (cons con r) ml md = con k ∧ found (cons con r) ml md = true := fun k h1 h2 h3 => scan_hit con r k ml md h1 h2 h3
            have hNN : (∀ j, j < r → covers (con j) ml md = false) → hit (cons con r) ml md = ⟨⟨#[]⟩, ⟨#[]⟩, ⟨#[]⟩⟩ ∧ found (cons con r) ml md = false := fun h => scan_none con r ml md h
            generalize hit (cons con r) ml md = hc at ZF hHN hNN
            generalize found (cons con r) ml md = fb at ZF hHN hNN
            refine ZF.mono ?_
            rintro _ w5 ⟨rfl, g5⟩
            have E0 := D0.kept (below_grown g5)
            have E1 := D1.kept (below_grown g5)
            have E2 := D2.kept (below_grown g5)
            have b5 := b4'.trans ((below_grown g5).mono b4'.size)
            have HH := hidden hHN
            have HNN := hidden hNN
            clear D0 D1 D2 b4' g5 hHN hNN ZF S4 Y2 Y3
            go_wp2
            go_loopw [18] (fun t wr => ∃ k : Nat, k ≤ r ∧ t = .int .i64 k ∧ (∀ j, j < k → covers (con j) ml md = false) ∧ Copy wr d0 n0 (fun i => (con i).t) ∧ Copy wr d1 n1 (fun i => (con i).l) ∧ Copy wr d2 n2 (fun i => (con i).d) ∧ Below w.heap.size w wr) (fun t _ => r - (intOf t).toNat)
            case atStart => exact ⟨0, Nat.zero_le _, rfl, fun j hj => absurd hj (Nat.not_lt_zero _), E0, E1, E2, b5⟩
            case round =>
              clear E0 E1 E2 b5
              obtain ⟨k, hk, rfl, hq, E0, E1, E2, b5⟩ := hrel
              have HQ := hidden hq
              have HE0 := hidden E0
              have HE1 := hidden E1
              have HE2 := hidden E2
              clear hq E0 E1 E2
              by_cases hlt : k < r
              · obtain ⟨p0, rfl, l0, x0⟩ := HE0.out k (by omega)
                obtain ⟨p1, rfl, l1, x1⟩ := HE1.out k (by omega)
                obtain ⟨p2, rfl, l2, x2⟩ := HE2.out k (by omega)
                simp only [] at x0 x1 x2
                have q0 : k < n0 := by omega
                have q1 : k < n1 := by omega
                have q2 : k < n2 := by omega
                have CV := covers_walk (con k) ml md (by unfold maxLen; omega)
                by_cases hcv : covers (con k) ml md = true
                · obtain ⟨rfl, rfl⟩ := HH.out k hlt HQ.out hcv
                  rw [hcv] at CV
                  go_wp2
                  go_quiet ((go_at_call 22; refine Calls.quiet_of (CV _)))
                  go_wp2
                  go_ret
                  exact ⟨by simp, below_drewN b5 _⟩
                · have hcv' : covers (con k) ml md = false := by simpa using hcv
                  rw [hcv'] at CV
                  go_wp2
                  go_quiet ((go_at_call 22; refine Calls.quiet_of (CV _)))
                  go_wp2
                  go_roundw
                  case rel => exact ⟨k + 1, by omega, by go_num, fun j hj => by
                    rcases Nat.lt_or_ge j k with h3 | h3
                    · exact HQ.out j h3
                    · have : j = k := by omega
                      subst this
                      exact hcv', HE0.out.drewN _, HE1.out.drewN _, HE2.out.drewN _, below_drewN b5 _⟩
                  case measure => simp [intOf]; omega
              · have e : k = r := by omega
                subst e
                obtain ⟨rfl, rfl⟩ := HNN.out HQ.out
                go_wp2
                go_ret
                exact ⟨by simp, b5⟩
  · go_wp2
    go_ret
    exact ⟨rfl, Below.refl _ _⟩
end Go.Proofs.Qxb6000491a
