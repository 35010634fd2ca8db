/-
  THE WALK OF isPrintableString (18) and of its alias (11).
-/
import Derived.Test.Qxb6000522aLeaves
import Derived.Test.Qxb6000522aShelf
namespace Go.Proofs.Qxb6000522a
open Go.RowKit

def allPr (l : List Int) : Bool := l.all pr
def mark (c : Int) : Int := Lib.indexByte [32, 39, 40, 41, 43, 44, 45, 46, 47, 58, 61, 63] c.toNat.toUInt8
def prR (c : Int) : Bool := (decide (97 ≤ c) && decide (c ≤ 122)) || (decide (65 ≤ c) && decide (c ≤ 90)) || (decide (48 ≤ c) && decide (c ≤ 57)) || decide (0 ≤ mark c)

theorem pr_table : ∀ k : Fin 256, pr (k.val : Int) = prR (k.val : Int) := by decide +kernel
theorem pr_eq (c : Int) (h0 : 0 ≤ c) (h1 : c ≤ 255) : pr c = prR c := by
  have := pr_table ⟨c.toNat, by omega⟩
  simpa [Int.toNat_of_nonneg h0] using this
theorem pr_in (c : Int) (h0 : 0 ≤ c) (h1 : c ≤ 255) (h : (97 ≤ c ∧ c ≤ 122) ∨ (65 ≤ c ∧ c ≤ 90) ∨ (48 ≤ c ∧ c ≤ 57)) : pr c = true := by
  rw [pr_eq c h0 h1, prR]
  rcases h with ⟨a, b⟩ | ⟨a, b⟩ | ⟨a, b⟩ <;> simp [a, b]
theorem pr_out (c : Int) (h0 : 0 ≤ c) (h1 : c ≤ 255) (ha : c < 97 ∨ 122 < c) (hb : c < 65 ∨ 90 < c) (hc : c < 48 ∨ 57 < c) : pr c = decide (0 ≤ mark c) := by
  rw [pr_eq c h0 h1, prR]
  have e1 : (decide (97 ≤ c) && decide (c ≤ 122)) = false := by simp; omega
  have e2 : (decide (65 ≤ c) && decide (c ≤ 90)) = false := by simp; omega
  have e3 : (decide (48 ≤ c) && decide (c ≤ 57)) = false := by simp; omega
  simp [e1, e2, e3]

theorem index_walk (c : Int) (w : World) : Calls Try.prog 21 #[.string ⟨#[32, 39, 40, 41, 43, 44, 45, 46, 47, 58, 61, 63]⟩, .int .u8 c] w fun e w' => e = .returned (.int .i64 (mark c)) ∧ w' = w :=
  Try.strings_IndexByte _ c w

theorem allPr_snoc (l : List Int) (c : Int) : allPr (l ++ [c]) = (allPr l && pr c) := by simp [allPr]

theorem no_all (zs : List Int) (c : Int) (k : Nat) (h : zs.take (k + 1) = zs.take k ++ [c]) (hc : pr c = false) : allPr zs = false := by
  unfold allPr
  rw [List.all_eq_false]
  refine ⟨c, List.mem_of_mem_take (i := k + 1) (by rw [h]; simp), by simp [hc]⟩

set_option maxHeartbeats 2000000 in
set_option maxRecDepth 100000 in
theorem print_walk (g len : Nat) (zs : List Int) (w : World) (hlen : len ≤ 1048576) (hz : zs.length = len) (hr : ∀ j, j < len → 0 ≤ zs.getD j 0 ∧ zs.getD j 0 ≤ 255)
    (hc : ∀ j, j < len → w.cell? ⟨g, j, none⟩ = some (.int .u8 (zs.getD j 0))) :
    Calls Try.prog 18 #[.slice (some ⟨g, 0, none⟩) len len] w fun e w' => e = .returned (.bool (allPr zs)) ∧ w = w' := by
  go_enter Try.func18, Try.ntmps18
  go_wp2
  go_loop [7] (fun i => ∃ k : Nat, k ≤ len ∧ i = .int .i64 k ∧ allPr (zs.take k) = true) (fun i => len - (intOf i).toNat)
  case atStart => exact ⟨0, Nat.zero_le _, rfl, rfl⟩
  case round =>
    obtain ⟨k, hk, rfl, hal⟩ := hrel
    have HA : Hid (allPr (zs.take k) = true) := hal
    clear hal
    by_cases hlt : k < len
    · obtain ⟨c, hcc⟩ : ∃ c, c = zs.getD k 0 := ⟨_, rfl⟩
      have hcx : w.cell? ⟨g, k, none⟩ = some (.int .u8 c) := by rw [hcc]; exact hc k hlt
      obtain ⟨h0, h1⟩ : 0 ≤ c ∧ c ≤ 255 := by rw [hcc]; exact hr k hlt
      have HT : Hid (zs.take (k + 1) = zs.take k ++ [c]) := by
        unfold Hid; rw [List.take_succ_eq_append_getElem (by omega), hcc]
        simp [List.getD, List.getElem?_eq_getElem (show k < zs.length by omega)]
      clear hcc hc hr
      rcases (show c < 48 ∨ (48 ≤ c ∧ c ≤ 57) ∨ (57 < c ∧ c < 65) ∨ (65 ≤ c ∧ c ≤ 90) ∨ (90 < c ∧ c < 97) ∨ (97 ≤ c ∧ c ≤ 122) ∨ 122 < c by omega) with h | ⟨h, h'⟩ | ⟨h, h'⟩ | ⟨h, h'⟩ | ⟨h, h'⟩ | ⟨h, h'⟩ | h
      all_goals by_cases hm : 0 ≤ mark c
      all_goals go_wp2_with (go_at_call 21; refine (index_walk _ _).mono ?_; rintro e w' ⟨rfl, rfl⟩)
      all_goals first
        | (go_round
           case rel => exact ⟨k + 1, by omega, by go_num, by rw [HT.out, allPr_snoc, HA.out, pr_in c h0 h1 (by omega)]; rfl⟩
           case measure => simp [intOf]; omega)
        | (go_round
           case rel => exact ⟨k + 1, by omega, by go_num, by rw [HT.out, allPr_snoc, HA.out, pr_out c h0 h1 (by omega) (by omega) (by omega)]; simpa using hm⟩
           case measure => simp [intOf]; omega)
        | (go_ret
           refine ⟨?_, rfl⟩
           rw [no_all zs c k HT.out (by rw [pr_out c h0 h1 (by omega) (by omega) (by omega)]; simpa using hm)]
           rfl)
        | (have hx : (!decide (0 ≤ mark c)) = false := by assumption
           simp at hx; omega)
        | (have hx : (!decide (c ≤ 57)) = false ∨ (!decide (0 ≤ mark c)) = false := by assumption
           simp at hx; omega)
        | (have hx : ((!decide (c ≤ 90)) = false ∨ (!decide (c ≤ 57)) = false) ∨ (!decide (0 ≤ mark c)) = false := by assumption
           simp at hx; omega)
        | (have hx : (((!decide (c ≤ 122)) = false ∨ (!decide (c ≤ 90)) = false) ∨ (!decide (c ≤ 57)) = false) ∨ (!decide (0 ≤ mark c)) = false := by assumption
           simp at hx; omega)
    · have e : k = len := by omega
      subst e
      go_wp2
      go_ret
      have := HA.out
      rw [List.take_of_length_le (by omega)] at this
      rw [this]
      exact ⟨rfl, rfl⟩

set_option maxHeartbeats 1000000 in
theorem print_nil_walk (w : World) : Calls Try.prog 18 #[.slice none 0 0] w fun e w' => e = .returned (.bool true) ∧ w = w' := by
  go_enter Try.func18, Try.ntmps18
  go_wp2
  refine wp_loop_rounds 1 ?_
  rw [rounds_succ]
  go_wp2
  go_ret
  exact ⟨rfl, rfl⟩

theorem zz_walk (g len : Nat) (zs : List Int) (w : World) (hlen : len ≤ 1048576) (hz : zs.length = len) (hr : ∀ j, j < len → 0 ≤ zs.getD j 0 ∧ zs.getD j 0 ≤ 255)
    (hc : ∀ j, j < len → w.cell? ⟨g, j, none⟩ = some (.int .u8 (zs.getD j 0))) :
    Calls Try.prog 11 #[.slice (some ⟨g, 0, none⟩) len len] w fun e w' => e = .returned (.bool (allPr zs)) ∧ w = w' := by
  go_enter Try.func11, Try.ntmps11
  go_wp2_with (go_at_call 18; refine (print_walk g len zs _ hlen hz hr hc).mono ?_; rintro e w' ⟨rfl, rfl⟩)
  go_ret
  exact ⟨rfl, rfl⟩
theorem zz_nil_walk (w : World) : Calls Try.prog 11 #[.slice none 0 0] w fun e w' => e = .returned (.bool true) ∧ w = w' := by
  go_enter Try.func11, Try.ntmps11
  go_wp2_with (go_at_call 18; refine (print_nil_walk _).mono ?_; rintro e w' ⟨rfl, rfl⟩)
  go_ret
  exact ⟨rfl, rfl⟩
end Go.Proofs.Qxb6000522a
