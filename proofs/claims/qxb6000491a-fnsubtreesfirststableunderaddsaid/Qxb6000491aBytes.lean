/-
  THE TWO BOUNDS: zzBytes (15, 23): either answer; nothing is written.
-/
import Derived.Test.Qxb6000491aLeaves
namespace Go.Proofs.Qxb6000491a
open Go.RowKit Go.Maps Go.WideMaps

set_option maxHeartbeats 2000000 in
set_option maxRecDepth 100000 in
theorem bytes15_walk (a0 : Option Addr) (n0 c0 : Nat) (f0 : Nat → ByteArray) (a1 : Option Addr) (n1 c1 : Nat) (f1 : Nat → ByteArray) (a2 : Option Addr) (n2 c2 : Nat) (f2 : Nat → ByteArray) (x1 x2 : ByteArray) (w : World) (H0 : Txt w a0 n0 f0) (H1 : Txt w a1 n1 f1) (H2 : Txt w a2 n2 f2) :
    Calls Try.prog 15 #[.slice a0 n0 c0, .slice a1 n1 c1, .slice a2 n2 c2, .string x1, .string x2] w fun e w' => (e = .returned (.bool true) ∨ e = .returned (.bool false)) ∧ w' = w := by
  have HT0 := hidden H0
  have HT1 := hidden H1
  have HT2 := hidden H2
  clear H0 H1 H2
  go_enter Try.func15, Try.ntmps15
  by_cases hn0 : 1048576 < n0
  · go_wp2
    go_ret
    exact ⟨Or.inr rfl, rfl⟩
  · by_cases hs0 : 1048576 < 0 + n0
    · omega
    · go_wp2
      go_loop [11, 12] (fun sv iv => ∃ k s : Nat, k ≤ n0 ∧ iv = .int .i64 k ∧ sv = .int .i64 s ∧ s ≤ 1048576) (fun _ iv => n0 - (intOf iv).toNat)
      case atStart => exact ⟨0, 0 + n0, Nat.zero_le _, rfl, by go_num, by omega⟩
      case round =>
        obtain ⟨k0, s0, hk0, rfl, rfl, hq0⟩ := hrel
        by_cases hlt0 : k0 < n0
        · obtain ⟨b, off, rfl, hb, hc, hz⟩ := HT0.out k0 hlt0
          by_cases h2 : 1048576 < (f0 k0).size
          · go_wp2
            go_ret
            exact ⟨Or.inr rfl, rfl⟩
          · by_cases h3 : 1048576 < s0 + (f0 k0).size
            · go_wp2
              go_ret
              exact ⟨Or.inr rfl, rfl⟩
            · go_wp2
              go_round
              case rel => exact ⟨k0 + 1, s0 + (f0 k0).size, by omega, by go_num, by go_num, by omega⟩
              case measure => simp [intOf]; omega
        · clear HT0
          by_cases hn1 : 1048576 < n1
          · go_wp2
            go_ret
            exact ⟨Or.inr rfl, rfl⟩
          · by_cases hs1 : 1048576 < s0 + n1
            · go_wp2
              go_ret
              exact ⟨Or.inr rfl, rfl⟩
            · go_wp2
              go_loop [11, 13] (fun sv iv => ∃ k s : Nat, k ≤ n1 ∧ iv = .int .i64 k ∧ sv = .int .i64 s ∧ s ≤ 1048576) (fun _ iv => n1 - (intOf iv).toNat)
              case atStart => exact ⟨0, s0 + n1, Nat.zero_le _, rfl, by go_num, by omega⟩
              case round =>
                obtain ⟨k1, s1, hk1, rfl, rfl, hq1⟩ := hrel
                by_cases hlt1 : k1 < n1
                · obtain ⟨b, off, rfl, hb, hc, hz⟩ := HT1.out k1 hlt1
                  by_cases h2 : 1048576 < (f1 k1).size
                  · go_wp2
                    go_ret
                    exact ⟨Or.inr rfl, rfl⟩
                  · by_cases h3 : 1048576 < s1 + (f1 k1).size
                    · go_wp2
                      go_ret
                      exact ⟨Or.inr rfl, rfl⟩
                    · go_wp2
                      go_round
                      case rel => exact ⟨k1 + 1, s1 + (f1 k1).size, by omega, by go_num, by go_num, by omega⟩
                      case measure => simp [intOf]; omega
                · clear HT1
                  by_cases hn2 : 1048576 < n2
                  · go_wp2
                    go_ret
                    exact ⟨Or.inr rfl, rfl⟩
                  · by_cases hs2 : 1048576 < s1 + n2
                    · go_wp2
                      go_ret
                      exact ⟨Or.inr rfl, rfl⟩
                    · go_wp2
                      go_loop [11, 14] (fun sv iv => ∃ k s : Nat, k ≤ n2 ∧ iv = .int .i64 k ∧ sv = .int .i64 s ∧ s ≤ 1048576) (fun _ iv => n2 - (intOf iv).toNat)
                      case atStart => exact ⟨0, s1 + n2, Nat.zero_le _, rfl, by go_num, by omega⟩
                      case round =>
                        obtain ⟨k2, s2, hk2, rfl, rfl, hq2⟩ := hrel
                        by_cases hlt2 : k2 < n2
                        · obtain ⟨b, off, rfl, hb, hc, hz⟩ := HT2.out k2 hlt2
                          by_cases h2 : 1048576 < (f2 k2).size
                          · go_wp2
                            go_ret
                            exact ⟨Or.inr rfl, rfl⟩
                          · by_cases h3 : 1048576 < s2 + (f2 k2).size
                            · go_wp2
                              go_ret
                              exact ⟨Or.inr rfl, rfl⟩
                            · go_wp2
                              go_round
                              case rel => exact ⟨k2 + 1, s2 + (f2 k2).size, by omega, by go_num, by go_num, by omega⟩
                              case measure => simp [intOf]; omega
                        · clear HT2
                          by_cases hxx1 : 1048576 < x1.size
                          · go_wp2
                            go_ret
                            exact ⟨Or.inr rfl, rfl⟩
                          · by_cases hyx1 : 1048576 < s2 + x1.size
                            · go_wp2
                              go_ret
                              exact ⟨Or.inr rfl, rfl⟩
                            · skip
                              by_cases hxx2 : 1048576 < x2.size
                              · go_wp2
                                go_ret
                                exact ⟨Or.inr rfl, rfl⟩
                              · by_cases hyx2 : 1048576 < s2 + x1.size + x2.size
                                · go_wp2
                                  go_ret
                                  exact ⟨Or.inr rfl, rfl⟩
                                · skip
                                  go_wp2
                                  go_ret
                                  exact ⟨Or.inl rfl, rfl⟩

set_option maxHeartbeats 2000000 in
set_option maxRecDepth 100000 in
theorem bytes23_walk (a0 : Option Addr) (n0 c0 : Nat) (f0 : Nat → ByteArray) (a1 : Option Addr) (n1 c1 : Nat) (f1 : Nat → ByteArray) (a2 : Option Addr) (n2 c2 : Nat) (f2 : Nat → ByteArray) (x1 x2 x3 x4 x5 : ByteArray) (w : World) (H0 : Txt w a0 n0 f0) (H1 : Txt w a1 n1 f1) (H2 : Txt w a2 n2 f2) :
    Calls Try.prog 23 #[.slice a0 n0 c0, .slice a1 n1 c1, .slice a2 n2 c2, .string x1, .string x2, .string x3, .string x4, .string x5] w fun e w' => (e = .returned (.bool true) ∨ e = .returned (.bool false)) ∧ w' = w := by
  have HT0 := hidden H0
  have HT1 := hidden H1
  have HT2 := hidden H2
  clear H0 H1 H2
  go_enter Try.func23, Try.ntmps23
  by_cases hn0 : 1048576 < n0
  · go_wp2
    go_ret
    exact ⟨Or.inr rfl, rfl⟩
  · by_cases hs0 : 1048576 < 0 + n0
    · omega
    · go_wp2
      go_loop [17, 18] (fun sv iv => ∃ k s : Nat, k ≤ n0 ∧ iv = .int .i64 k ∧ sv = .int .i64 s ∧ s ≤ 1048576) (fun _ iv => n0 - (intOf iv).toNat)
      case atStart => exact ⟨0, 0 + n0, Nat.zero_le _, rfl, by go_num, by omega⟩
      case round =>
        obtain ⟨k0, s0, hk0, rfl, rfl, hq0⟩ := hrel
        by_cases hlt0 : k0 < n0
        · obtain ⟨b, off, rfl, hb, hc, hz⟩ := HT0.out k0 hlt0
          by_cases h2 : 1048576 < (f0 k0).size
          · go_wp2
            go_ret
            exact ⟨Or.inr rfl, rfl⟩
          · by_cases h3 : 1048576 < s0 + (f0 k0).size
            · go_wp2
              go_ret
              exact ⟨Or.inr rfl, rfl⟩
            · go_wp2
              go_round
              case rel => exact ⟨k0 + 1, s0 + (f0 k0).size, by omega, by go_num, by go_num, by omega⟩
              case measure => simp [intOf]; omega
        · clear HT0
          by_cases hn1 : 1048576 < n1
          · go_wp2
            go_ret
            exact ⟨Or.inr rfl, rfl⟩
          · by_cases hs1 : 1048576 < s0 + n1
            · go_wp2
              go_ret
              exact ⟨Or.inr rfl, rfl⟩
            · go_wp2
              go_loop [17, 19] (fun sv iv => ∃ k s : Nat, k ≤ n1 ∧ iv = .int .i64 k ∧ sv = .int .i64 s ∧ s ≤ 1048576) (fun _ iv => n1 - (intOf iv).toNat)
              case atStart => exact ⟨0, s0 + n1, Nat.zero_le _, rfl, by go_num, by omega⟩
              case round =>
                obtain ⟨k1, s1, hk1, rfl, rfl, hq1⟩ := hrel
                by_cases hlt1 : k1 < n1
                · obtain ⟨b, off, rfl, hb, hc, hz⟩ := HT1.out k1 hlt1
                  by_cases h2 : 1048576 < (f1 k1).size
                  · go_wp2
                    go_ret
                    exact ⟨Or.inr rfl, rfl⟩
                  · by_cases h3 : 1048576 < s1 + (f1 k1).size
                    · go_wp2
                      go_ret
                      exact ⟨Or.inr rfl, rfl⟩
                    · go_wp2
                      go_round
                      case rel => exact ⟨k1 + 1, s1 + (f1 k1).size, by omega, by go_num, by go_num, by omega⟩
                      case measure => simp [intOf]; omega
                · clear HT1
                  by_cases hn2 : 1048576 < n2
                  · go_wp2
                    go_ret
                    exact ⟨Or.inr rfl, rfl⟩
                  · by_cases hs2 : 1048576 < s1 + n2
                    · go_wp2
                      go_ret
                      exact ⟨Or.inr rfl, rfl⟩
                    · go_wp2
                      go_loop [17, 20] (fun sv iv => ∃ k s : Nat, k ≤ n2 ∧ iv = .int .i64 k ∧ sv = .int .i64 s ∧ s ≤ 1048576) (fun _ iv => n2 - (intOf iv).toNat)
                      case atStart => exact ⟨0, s1 + n2, Nat.zero_le _, rfl, by go_num, by omega⟩
                      case round =>
                        obtain ⟨k2, s2, hk2, rfl, rfl, hq2⟩ := hrel
                        by_cases hlt2 : k2 < n2
                        · obtain ⟨b, off, rfl, hb, hc, hz⟩ := HT2.out k2 hlt2
                          by_cases h2 : 1048576 < (f2 k2).size
                          · go_wp2
                            go_ret
                            exact ⟨Or.inr rfl, rfl⟩
                          · by_cases h3 : 1048576 < s2 + (f2 k2).size
                            · go_wp2
                              go_ret
                              exact ⟨Or.inr rfl, rfl⟩
                            · go_wp2
                              go_round
                              case rel => exact ⟨k2 + 1, s2 + (f2 k2).size, by omega, by go_num, by go_num, by omega⟩
                              case measure => simp [intOf]; omega
                        · clear HT2
                          by_cases hxx1 : 1048576 < x1.size
                          · go_wp2
                            go_ret
                            exact ⟨Or.inr rfl, rfl⟩
                          · by_cases hyx1 : 1048576 < s2 + x1.size
                            · go_wp2
                              go_ret
                              exact ⟨Or.inr rfl, rfl⟩
                            · skip
                              by_cases hxx2 : 1048576 < x2.size
                              · go_wp2
                                go_ret
                                exact ⟨Or.inr rfl, rfl⟩
                              · by_cases hyx2 : 1048576 < s2 + x1.size + x2.size
                                · go_wp2
                                  go_ret
                                  exact ⟨Or.inr rfl, rfl⟩
                                · skip
                                  by_cases hxx3 : 1048576 < x3.size
                                  · go_wp2
                                    go_ret
                                    exact ⟨Or.inr rfl, rfl⟩
                                  · by_cases hyx3 : 1048576 < s2 + x1.size + x2.size + x3.size
                                    · go_wp2
                                      go_ret
                                      exact ⟨Or.inr rfl, rfl⟩
                                    · skip
                                      by_cases hxx4 : 1048576 < x4.size
                                      · go_wp2
                                        go_ret
                                        exact ⟨Or.inr rfl, rfl⟩
                                      · by_cases hyx4 : 1048576 < s2 + x1.size + x2.size + x3.size + x4.size
                                        · go_wp2
                                          go_ret
                                          exact ⟨Or.inr rfl, rfl⟩
                                        · skip
                                          by_cases hxx5 : 1048576 < x5.size
                                          · go_wp2
                                            go_ret
                                            exact ⟨Or.inr rfl, rfl⟩
                                          · by_cases hyx5 : 1048576 < s2 + x1.size + x2.size + x3.size + x4.size + x5.size
                                            · go_wp2
                                              go_ret
                                              exact ⟨Or.inr rfl, rfl⟩
                                            · skip
                                              go_wp2
                                              go_ret
                                              exact ⟨Or.inl rfl, rfl⟩
end Go.Proofs.Qxb6000491a
