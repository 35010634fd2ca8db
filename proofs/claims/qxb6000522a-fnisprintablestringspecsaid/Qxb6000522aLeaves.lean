/-
  THE WALKS OF THE LEAVES: zzBytes (8), cloneBytes (9), inPrintableAlphabet (10), isPrintableString (18).
-/
import Derived.Test.Qxb6000522aRows
import Derived.WalkKit
import Derived.BigCall
import Derived.WalkSpells

namespace Go.Proofs.Qxb6000522a
open Go.RowKit

set_option maxHeartbeats 400000 in
theorem zzBytes_walk (a : Option Addr) (len cap : Nat) (hl : len ≤ maxLen) (w : World) :
    Calls Try.prog 8 #[.slice a len cap] w fun e w' => (e = .returned (.bool true) ∨ e = .returned (.bool false)) ∧ w = w' := by
  unfold maxLen at hl
  go_enter Try.func8, Try.ntmps8
  go_wp2
  all_goals (go_ret; exact ⟨by simp, rfl⟩)

def alpha : List Int := [65, 66, 67, 68, 69, 70, 71, 72, 73, 74, 75, 76, 77, 78, 79, 80, 81, 82, 83, 84, 85, 86, 87, 88, 89, 90, 97, 98, 99, 100, 101, 102, 103, 104, 105, 106, 107, 108, 109, 110, 111, 112, 113, 114, 115, 116, 117, 118, 119, 120, 121, 122, 48, 49, 50, 51, 52, 53, 54, 55, 56, 57, 32, 39, 40, 41, 43, 44, 45, 46, 47, 58, 61, 63]
abbrev alphaB : ByteArray := ⟨#[65, 66, 67, 68, 69, 70, 71, 72, 73, 74, 75, 76, 77, 78, 79, 80, 81, 82, 83, 84, 85, 86, 87, 88, 89, 90, 97, 98, 99, 100, 101, 102, 103, 104, 105, 106, 107, 108, 109, 110, 111, 112, 113, 114, 115, 116, 117, 118, 119, 120, 121, 122, 48, 49, 50, 51, 52, 53, 54, 55, 56, 57, 32, 39, 40, 41, 43, 44, 45, 46, 47, 58, 61, 63]⟩
def pr (c : Int) : Bool := alpha.contains c
def prTo (k : Nat) (c : Int) : Bool := (alpha.take k).contains c
theorem alpha_len : alpha.length = 74 := rfl
theorem alpha_bytes : alpha = alphaB.data.toList.map (fun b => (b.toNat : Int)) := by decide +kernel
theorem alphaB_size : alphaB.size = 74 := rfl
theorem alpha_at (k : Nat) (h : k < alphaB.size) (h' : k < alpha.length) : alpha[k] = ((alphaB[k]'h).toNat : Int) := by
  have : alpha[k]? = some ((alphaB[k]'h).toNat : Int) := by
    rw [alpha_bytes, List.getElem?_map, Array.getElem?_toList, Array.getElem?_eq_getElem h]
    rfl
  rw [List.getElem?_eq_getElem h'] at this
  exact Option.some.inj this

theorem one_not (z c : Int) (h : (z == c) = false) : (false || [z].contains c) = false := by
  have h' : z ≠ c := by simpa using h
  simp [Ne.symm h']
theorem prTo_step (k : Nat) (c : Int) (h : k < alphaB.size) (hno : prTo k c = false) (hne : (((alphaB[k]'h).toNat : Int) == c) = false) : prTo (k + 1) c = false := by
  unfold prTo at *
  have h' : k < alpha.length := h
  rw [List.take_succ_eq_append_getElem h', List.contains_append, hno, alpha_at k h h']
  exact one_not _ _ hne
theorem pr_hit (k : Nat) (c : Int) (h : k < alphaB.size) (he : (((alphaB[k]'h).toNat : Int) == c) = true) : pr c = true := by
  unfold pr
  have h' : k < alpha.length := h
  have : alpha[k] = c := by rw [alpha_at k h h']; simpa using he
  exact List.contains_iff_mem.2 (this ▸ List.getElem_mem h')
theorem pr_all (c : Int) (h : prTo 74 c = false) : pr c = false := h

set_option maxHeartbeats 1000000 in
set_option maxRecDepth 100000 in
theorem alphabet_walk (c : Int) (w : World) :
    Calls Try.prog 10 #[.int .u8 c] w fun e w' => e = .returned (.bool (pr c)) ∧ w = w' := by
  go_enter Try.func10, Try.ntmps10
  go_wp2
  go_loop [3] (fun i => ∃ k : Nat, k ≤ 74 ∧ i = .int .i64 k ∧ prTo k c = false) (fun i => 74 - (intOf i).toNat)
  case atStart => exact ⟨0, Nat.zero_le _, rfl, rfl⟩
  case round =>
    obtain ⟨k, hk, rfl, hno⟩ := hrel
    have HN : Hid (prTo k c = false) := hno
    clear hno
    by_cases hlt : k < 74
    · go_wp2
      · have he : (((alphaB[k]'hlt).toNat : Int) == c) = true := by assumption
        go_ret
        rw [pr_hit k c hlt he]
        exact ⟨rfl, rfl⟩
      · have hne : (((alphaB[k]'hlt).toNat : Int) == c) = false := by assumption
        go_round
        case rel => exact ⟨k + 1, by omega, by go_num, prTo_step k c hlt HN.out hne⟩
        case measure => simp [intOf]; omega
    · have e : k = 74 := by omega
      subst e
      go_wp2
      go_ret
      rw [pr_all c HN.out]
      exact ⟨rfl, rfl⟩

theorem info5 : (Try.prog.info? 5).map (fun i => (i.zero, i.size, i.bytes)) = some (some (.int .u8 0), 1, 1) := by kernel_rfl

theorem set_mid (zs : List Int) (len k : Nat) (hz : len ≤ zs.length) (hk : k < len) :
    ((zs.take k).map (Value.int .u8) ++ List.replicate (len - k) (Value.int .u8 0)).set k (.int .u8 (zs.getD k 0)) = (zs.take (k + 1)).map (Value.int .u8) ++ List.replicate (len - (k + 1)) (Value.int .u8 0) := by
  have hl : ((zs.take k).map (Value.int .u8)).length = k := by simp; omega
  rw [List.set_append_right _ _ (by omega), hl, Nat.sub_self]
  obtain ⟨r, hr⟩ : ∃ r, len - k = r + 1 := ⟨len - k - 1, by omega⟩
  rw [hr, show len - (k + 1) = r from by omega, List.replicate_succ, List.set_cons_zero, List.take_succ_eq_append_getElem (by omega), List.map_append, List.append_assoc]
  congr 1
  simp [List.getD, List.getElem?_eq_getElem (show k < zs.length by omega)]

set_option maxHeartbeats 1000000 in
set_option maxRecDepth 100000 in
/-- cloneBytes of a slice that is not nil. -/
theorem clone_walk (b off len cap : Nat) (zs : List Int) (w : World) (hlen : len ≤ 1048576) (hz : len ≤ zs.length) (hb : b < w.heap.size)
    (hc : ∀ j, j < len → w.cell? ⟨b, off + j, none⟩ = some (.int .u8 (zs.getD j 0))) :
    Calls Try.prog 9 #[.slice (some ⟨b, off, none⟩) len cap] w fun e w' => e = .returned (.slice (some ⟨w.heap.size, 0, none⟩) len len) ∧
      w'.ownsRow w.heap.size 5 1 (.slice (some ⟨w.heap.size, 0, none⟩) len len) len ((zs.take len).map (Value.int .u8)) ∧ Below w.heap.size w w' := by
  obtain ⟨i0, hi, hz0, hz1, hz2⟩ := info_parts info5
  have q22 : ∀ (w : World) (a : Option Addr) (n c n' c' : Nat), (binOp .eql 22 (.slice a n c) (.slice none n' c')).run Try.prog w = .ok (.bool a.isNone) w := fun w a n c n' c' => Lib.run_eql_slice_nil w _ _ a n c n' c' Try.underlying22
  go_enter Try.func9, Try.ntmps9
  go_wp2_with (at_make; refine wpList_make_full _ rfl _ _ 22 rfl w.heap.size 5 i0 (.int .u8 0) 1 Try.underlying22 hi hz0 hz1 _ _ _ _ len rfl rfl rfl rfl ?b2 ?b3 (Nat.le_refl _) ?_)
  case b2 => rw [hz2]; omega
  case b3 => unfold maxLen; omega
  intro w0 hown0 hgrow0
  have b0 : Below w.heap.size w w0 := (Below.refl _ w).grown hgrow0 (Nat.le_refl _) (fun k h => by cases h)
  rw [toList_madeCells_one] at hown0
  clear hgrow0
  go_wp2
  go_loopw [4] (fun i wr => ∃ k : Nat, k ≤ len ∧ i = .int .i64 k ∧ wr.ownsRow w.heap.size 5 1 (.slice (some ⟨w.heap.size, 0, none⟩) len len) len ((zs.take k).map (Value.int .u8) ++ List.replicate (len - k) (Value.int .u8 0)) ∧ Below w.heap.size w wr) (fun i _ => len - (intOf i).toNat)
  case atStart => exact ⟨0, Nat.zero_le _, rfl, by simpa using hown0, b0⟩
  case round =>
    obtain ⟨k, hk, rfl, hown, hbel⟩ := hrel
    by_cases hlt : k < len
    · have hcx : wr.cell? ⟨b, off + k, none⟩ = some (.int .u8 (zs.getD k 0)) := (hbel.cell (by exact hb)).trans (hc k hlt)
      have hfz := hown.frozenAt k
      obtain ⟨v, hv⟩ : ∃ v, wr.cell? ⟨w.heap.size, k, none⟩ = some v := ⟨_, (hown.cellAt k (by omega)).trans (List.getElem?_eq_getElem (by simp; omega))⟩
      have hst := hown.stored k (.int .u8 (zs.getD k 0))
      rw [set_mid zs len k hz hlt] at hst
      have HS : Hid ((wr.setCell ⟨w.heap.size, k, none⟩ (.int .u8 (zs.getD k 0))).ownsRow w.heap.size 5 1 (.slice (some ⟨w.heap.size, 0, none⟩) len len) len ((zs.take (k + 1)).map (Value.int .u8) ++ List.replicate (len - (k + 1)) (Value.int .u8 0)) ∧ wr.grownBy (wr.setCell ⟨w.heap.size, k, none⟩ (.int .u8 (zs.getD k 0))) (some w.heap.size)) := hst
      clear hst
      go_wp2
      go_roundw
      case rel => exact ⟨k + 1, by omega, by go_num, HS.out.1, hbel.grown HS.out.2 hbel.size (fun j hj => by cases hj; exact Nat.le_refl _)⟩
      case measure => simp [intOf]; omega
    · have e : k = len := by omega
      subst e
      go_wp2
      go_ret
      exact ⟨rfl, by simpa using hown, hbel⟩

set_option maxHeartbeats 1000000 in
set_option maxRecDepth 100000 in
/-- cloneBytes of an empty slice that is not nil, wherever it points. -/
theorem clone_empty_walk (x : Addr) (cap : Nat) (w : World) :
    Calls Try.prog 9 #[.slice (some x) 0 cap] w fun e w' => e = .returned (.slice (some ⟨w.heap.size, 0, none⟩) 0 0) ∧ Below w.heap.size w w' := by
  obtain ⟨i0, hi, hz0, hz1, hz2⟩ := info_parts info5
  have q22 : ∀ (w : World) (a : Option Addr) (n c n' c' : Nat), (binOp .eql 22 (.slice a n c) (.slice none n' c')).run Try.prog w = .ok (.bool a.isNone) w := fun w a n c n' c' => Lib.run_eql_slice_nil w _ _ a n c n' c' Try.underlying22
  go_enter Try.func9, Try.ntmps9
  go_wp2_with (at_make; refine wpList_make_full _ rfl _ _ 22 rfl w.heap.size 5 i0 (.int .u8 0) 1 Try.underlying22 hi hz0 hz1 _ _ _ _ 0 rfl rfl rfl rfl ?b2 ?b3 (Nat.le_refl _) ?_)
  case b2 => simp
  case b3 => unfold maxLen; omega
  intro w0 hown0 hgrow0
  have b0 : Below w.heap.size w w0 := (Below.refl _ w).grown hgrow0 (Nat.le_refl _) (fun k h => by cases h)
  clear hgrow0 hown0
  go_wp2
  refine wp_loop_rounds 1 ?_
  rw [rounds_succ]
  go_wp2
  go_ret
  exact ⟨rfl, b0⟩

set_option maxHeartbeats 1000000 in
theorem clone_nil_walk (w : World) : Calls Try.prog 9 #[.slice none 0 0] w fun e w' => e = .returned (.slice none 0 0) ∧ w = w' := by
  have q22 : ∀ (w : World) (a : Option Addr) (n c n' c' : Nat), (binOp .eql 22 (.slice a n c) (.slice none n' c')).run Try.prog w = .ok (.bool a.isNone) w := fun w a n c n' c' => Lib.run_eql_slice_nil w _ _ a n c n' c' Try.underlying22
  go_enter Try.func9, Try.ntmps9
  go_wp2
  go_ret
  exact ⟨rfl, rfl⟩
end Go.Proofs.Qxb6000522a
