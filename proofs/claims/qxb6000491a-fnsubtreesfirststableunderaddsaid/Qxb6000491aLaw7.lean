/-
  THE LAW FnSubtreesFirstStableUnderAdd (7).
-/
import Derived.Test.Qxb6000491aLaw6
namespace Go.Proofs.Qxb6000491a
open Go.RowKit Go.Maps Go.WideMaps

theorem add_kept {cs : List Con} {ml md : ByteArray} (c : Con) (h : found cs ml md = true) : hit (cs ++ [c]) ml md = hit cs ml md ∧ found (cs ++ [c]) ml md = true := by
  have hlt : firstIdx cs ml md < cs.length := by simpa [found] using h
  have e := firstIdx_snoc_lt c hlt
  unfold hit found
  rw [e, List.getElem?_append_left hlt]
  refine ⟨rfl, ?_⟩
  simp; omega

theorem add_new {cs : List Con} {ml md : ByteArray} (c : Con) (h : found cs ml md = false) (hc : covers c ml md = true) : hit (cs ++ [c]) ml md = c ∧ found (cs ++ [c]) ml md = true := by
  have hlt : ¬ firstIdx cs ml md < cs.length := by simpa [found] using h
  have e := firstIdx_snoc_eq c hlt
  rw [hc, if_pos rfl] at e
  unfold hit found
  rw [e]
  simp

theorem add_none {cs : List Con} {ml md : ByteArray} (c : Con) (h : found cs ml md = false) (hc : covers c ml md = false) : found (cs ++ [c]) ml md = false := by
  have hlt : ¬ firstIdx cs ml md < cs.length := by simpa [found] using h
  have e := firstIdx_snoc_eq c hlt
  rw [hc] at e
  simp only [Bool.false_eq_true, if_false] at e
  unfold found
  rw [e]
  simp

set_option maxHeartbeats 2000000 in
set_option maxRecDepth 100000 in
theorem law7_walk (con : Nat → Con) (a0 a1 a2 : Option Addr) (n0 c0 n1 c1 n2 c2 : Nat) (c : Con) (ml md : ByteArray) (w : World) (z0 : a0 = none → n0 = 0 ∧ c0 = 0) (z1 : a1 = none → n1 = 0 ∧ c1 = 0) (z2 : a2 = none → n2 = 0 ∧ c2 = 0)
    (H0 : Txt w a0 n0 (fun i => (con i).t)) (H1 : Txt w a1 n1 (fun i => (con i).l)) (H2 : Txt w a2 n2 (fun i => (con i).d)) :
    Calls Try.prog 7 #[.slice a0 n0 c0, .slice a1 n1 c1, .slice a2 n2 c2, .string c.t, .string c.l, .string c.d, .string ml, .string md] w fun e w' => e = .returned (.bool true) ∧ Below w.heap.size w w' := by
  go_enter Try.func7, Try.ntmps7
  go_wp2_with fail
  refine (bytes23_walk a0 n0 c0 _ a1 n1 c1 _ a2 n2 c2 _ c.t c.l c.d ml md w H0 H1 H2).mono ?_
  rintro _ w ⟨rfl | rfl, rfl⟩
  · by_cases m0 : 1048576 < n0
    · go_wp2
      go_ret
      exact ⟨rfl, Below.refl _ _⟩
    · by_cases m1 : 1048576 < n1
      · go_wp2
        go_ret
        exact ⟨rfl, Below.refl _ _⟩
      · by_cases m2 : 1048576 < n2
        · go_wp2
          go_ret
          exact ⟨rfl, Below.refl _ _⟩
        · go_wp2_with fail
          refine (addslice_walk 0 a0 n0 c0 _ _ (by omega) (by omega) H0).mono ?_
          rintro _ w ⟨t1, rfl, u1, i1, rfl⟩
          go_wp2_with fail
          refine (addslice_walk t1 a1 n1 c1 _ _ u1 (by omega) H1).mono ?_
          rintro _ w ⟨t2, rfl, u2, i2, rfl⟩
          go_wp2_with fail
          refine (addslice_walk t2 a2 n2 c2 _ _ u2 (by omega) H2).mono ?_
          rintro _ w ⟨t3, rfl, u3, i3, rfl⟩
          go_wp2_with fail
          refine (addlen_walk t3 c.t u3 _).mono ?_
          rintro _ w ⟨t4, rfl, u4, i4, rfl⟩
          go_wp2_with fail
          refine (addlen_walk t4 c.l u4 _).mono ?_
          rintro _ w ⟨t5, rfl, u5, i5, rfl⟩
          go_wp2_with fail
          refine (addlen_walk t5 c.d u5 _).mono ?_
          rintro _ w ⟨t6, rfl, u6, i6, rfl⟩
          go_wp2_with fail
          refine (addlen_walk t6 ml u6 _).mono ?_
          rintro _ w ⟨t7, rfl, u7, i7, rfl⟩
          go_wp2_with fail
          refine (addlen_walk t7 md u7 _).mono ?_
          rintro _ w ⟨t8, rfl, u8, i8, rfl⟩
          by_cases m5 : 1048576 < t8
          · go_wp2
            go_ret
            exact ⟨rfl, Below.refl _ _⟩
          · obtain ⟨v7, y8⟩ := i8 (by omega)
            obtain ⟨v6, y7⟩ := i7 v7
            obtain ⟨v5, y6⟩ := i6 v6
            obtain ⟨v4, y5⟩ := i5 v5
            obtain ⟨v3, y4⟩ := i4 v4
            obtain ⟨v2, y3⟩ := i3 v3
            obtain ⟨v1, y2⟩ := i2 v2
            have Y2 := hidden y2
            have Y3 := hidden y3
            clear i1 i2 i3 i4 i5 i6 i7 i8 y2 y3
            go_wp2_with fail
            refine (clone_walk a0 n0 c0 _ w (by omega) z0 H0).mono ?_
            rintro _ w1 ⟨d0, e0, rfl, C0, b1⟩
            have H1' := H1.kept b1
            have H2' := H2.kept b1
            clear H0 H1 H2
            go_wp2_with fail
            refine (clone_walk a1 n1 c1 _ w1 (by omega) z1 H1').mono ?_
            rintro _ w2 ⟨d1, e1, rfl, C1, b2⟩
            have H2 := H2'.kept b2
            have C0' := C0.kept b2
            have b2' := b1.trans (b2.mono b1.size)
            clear H1' H2' C0 b1 b2
            go_wp2_with fail
            refine (clone_walk a2 n2 c2 _ w2 (by omega) z2 H2).mono ?_
            rintro _ w3 ⟨d2, e2, rfl, C2, b3⟩
            have C0 := C0'.kept b3
            have C1' := C1.kept b3
            have b3' := b2'.trans (b3.mono b2'.size)
            clear C0' C1 b2' b3 H2 z0 z1 z2
            go_wp2_with fail
            refine (min3_walk n0 n1 n2 w3).mono ?_
            rintro _ w3 ⟨r, rfl, r0, r1, r2, rfl⟩
            go_wp2_with fail
            refine (build_walk w3 r con d0 d1 d2 n0 n1 n2 e0 e1 e2 (by omega) r0 r1 r2 (fun i hi => C0 i (by omega)) (fun i hi => C1' i (by omega)) (fun i hi => C2 i (by omega)) (fun i hi => ⟨by have := Y2.out i (by omega); unfold maxLen; omega, by have := Y3.out i (by omega); unfold maxLen; omega⟩)).mono ?_
            rintro _ w4 ⟨rfl, S4, b4⟩
            have b4' := b3'.trans (b4.mono b3'.size)
            have hL := labels_le con r (fun i hi => Y3.out i (by omega))
            have hcl : (cons con r).length ≤ 1048576 := by rw [cons_length]; omega
            clear C0 C1' C2 b4 Y2 Y3
            obtain ⟨bs, hbs⟩ : ∃ bs, bs = w3.heap.size := ⟨_, rfl⟩
            rw [← hbs] at S4 ⊢
            have hb3 := b3'.size
            obtain ⟨cs, hcs⟩ : ∃ cs, cs = cons con r := ⟨_, rfl⟩
            rw [← hcs] at S4 hL hcl
            have hL2 : labels (cs ++ [c]) ≤ 1048576 := by
              rw [labels_snoc]
              have := labelsOf_le c
              omega
            have hbw : w.heap.size ≤ bs := by omega
            clear hcs hbs b3' hb3
            have K1 := fun (h : found cs ml md = true) => add_kept c h
            have K2 := fun (h : found cs ml md = false) (h2 : covers c ml md = true) => add_new c h h2
            have K3 := fun (h : found cs ml md = false) (h2 : covers c ml md = false) => add_none c h h2
            have ZF := zzfirst_walk bs bs cs ml md w4 S4 (by unfold maxLen; omega) y8 hL
            have ZF2 := fun wx (S : St bs wx bs (cs ++ [c])) => zzfirst_walk bs bs (cs ++ [c]) ml md wx S (by unfold maxLen; omega) y8 hL2
            have ZA := fun wx (S : St bs wx bs cs) => zzadd_walk bs bs cs c wx S hcl (by unfold maxLen; omega) (by unfold maxLen; omega)
            have CV := covers_walk c ml md (by unfold maxLen; omega)
            generalize hit cs ml md = h1 at ZF K1
            generalize found cs ml md = f1 at ZF K1 K2 K3
            generalize hit (cs ++ [c]) ml md = h2 at ZF2 K1 K2
            generalize found (cs ++ [c]) ml md = f2 at ZF2 K1 K2 K3
            generalize covers c ml md = cv at CV K2 K3
            have HK1 := hidden K1
            have HK2 := hidden K2
            have HK3 := hidden K3
            have HZ2 := hidden ZF2
            have HZA := hidden ZA
            clear K1 K2 K3 ZF2 ZA
            go_wp2_with fail
            refine ZF.mono ?_
            rintro _ w5 ⟨rfl, g5⟩
            have S5 := S4.grown g5
            have b5 := b4'.trans ((below_grown g5).mono b4'.size)
            clear S4 b4' g5 ZF
            go_wp2_with fail
            refine (HZA.out w5 S5).mono ?_
            rintro _ w6 ⟨rfl, S6, b6⟩
            have b6' := b5.trans (b6.mono hbw)
            clear S5 b5 b6 HZA
            go_wp2_with fail
            refine (HZ2.out w6 S6).mono ?_
            rintro _ w7 ⟨rfl, g7⟩
            have b7 := b6'.trans ((below_grown g7).mono b6'.size)
            clear S6 b6' g7 HZ2
            cases f1 with
            | true =>
              obtain ⟨rfl, rfl⟩ := HK1.out rfl
              go_wp2
              go_ret
              exact ⟨by simp, b7⟩
            | false =>
              cases cv with
              | true =>
                obtain ⟨rfl, rfl⟩ := HK2.out rfl rfl
                go_wp2_with (go_at_call 22; refine (CV _).mono ?_; rintro _ _ ⟨rfl, m, rfl⟩)
                go_ret
                exact ⟨by simp, below_drewN b7 _⟩
              | false =>
                obtain rfl := HK3.out rfl rfl
                go_wp2_with (go_at_call 22; refine (CV _).mono ?_; rintro _ _ ⟨rfl, m, rfl⟩)
                go_ret
                exact ⟨by simp, below_drewN b7 _⟩
  · go_wp2
    go_ret
    exact ⟨rfl, Below.refl _ _⟩
end Go.Proofs.Qxb6000491a
