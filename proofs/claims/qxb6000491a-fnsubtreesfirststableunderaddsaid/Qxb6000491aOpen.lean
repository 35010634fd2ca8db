/-
  A SLICE OF STRINGS THAT CAME IN, opened as the walks are told of it.
-/
import Derived.Test.Qxb6000491aLaw7
import Derived.OpenShut
import Derived.SliceStrings
import Derived.Carry
namespace Go.Proofs.Qxb6000491a
open Go.ChangeShapes Go.WideShapes Go.RowKit

theorem cells9 : Try.prog.cellsOf 9 = 1 := by kernel_rfl

theorem open_txt {H : Type} {enc : TypeId × Value → H} {W : World} {a : Option Addr} {len cap : Nat} {d : DataW H} {ps : List MemPlace}
    (h : DataW.Trod enc Try.prog W 0 (fun _ => true) true 26 (.slice a len cap) d ps) : (a = none → len = 0 ∧ cap = 0) ∧ ∃ f, Txt W a len f := by
  obtain ⟨fuel, hf⟩ := h
  rcases open_strings Try.underlying26 Try.underlying9 cells9 hf with ⟨hcs, _⟩ | ⟨x, l, c, ss, hcs, _, hl, hm, hz, _, hcell, hsz⟩
  · simp [Value.cells] at hcs
    obtain ⟨rfl, rfl, rfl⟩ := hcs
    exact ⟨fun _ => ⟨rfl, rfl⟩, fun _ => ByteArray.empty, fun i hi => absurd hi (Nat.not_lt_zero _)⟩
  · simp [Value.cells] at hcs
    obtain ⟨rfl, rfl, rfl⟩ := hcs
    refine ⟨(fun h => by cases h), fun i => ss.getD i ByteArray.empty, fun i hi => ?_⟩
    have hlen : i < ss.length := by simp only [if_true] at hz; omega
    obtain ⟨b, off, spot⟩ := x
    have hspot : spot = none := by simpa [Addr.add] using World.cell?_spot (hcell 0 (by omega))
    subst hspot
    have hc : W.cell? ⟨b, off + i, none⟩ = some (.string (ss.getD i ByteArray.empty)) := by rw [← add_plain]; exact hcell i hlen
    refine ⟨b, off, rfl, ?_, hc, ?_⟩
    · unfold World.cell? at hc
      rcases Nat.lt_or_ge b W.heap.size with h' | h'
      · exact h'
      · simp [Array.getElem?_eq_none h'] at hc
    · have hmem : ss.getD i ByteArray.empty ∈ ss := by
        simp only [List.getD, List.getElem?_eq_getElem hlen, Option.getD_some]
        exact List.getElem_mem hlen
      exact hsz _ hmem
end Go.Proofs.Qxb6000491a
