/-
  THE KEYS OF THE TWO MAPS; WHAT A MAP OF INDEXES HOLDS; what a look-up and a store do to it.
-/
import Derived.Test.Qxb6000491aRows
import Derived.Test.Qxb6000491aPlain
import Derived.WalkKit
import Derived.ProofKit
import Derived.Maps.OwnSet
import Derived.Lib.SmallJoins
import Derived.ShutString
namespace Go.Proofs.Qxb6000491a
open Go.RowKit Go.Maps Go.WideMaps Go.Joins

theorem hidden {p : Prop} (h : p) : Hid p := h

theorem laidOut : laidOutB Try.prog = true := by kernel_rfl
theorem cells50 : Try.prog.cellsOf 50 = 2 := by kernel_rfl
theorem row50 : (50 : TypeId) < Try.prog.types.size := of_decide_eq_true (by kernel_rfl)
theorem deep50 : Try.prog.keyTypeAt (Try.prog.types.size + 1) 50 = true := by kernel_rfl
theorem wide50 : (match Try.prog.underlying 50 with | some (.array _ _) | some (.struct _) => true | _ => false) = true := by kernel_rfl
theorem law50 : Keyed Try.prog 50 := Keyed.of_law (deep_law_laid laidOut (m := 2) (by omega) row50 (by kernel_rfl) wide50)
theorem law9 : Keyed Try.prog 9 := string_keyed Try.underlying9
theorem zero3 (w : World) : (zeroValue 3).run Try.prog w = .ok (.int .i64 0) w := by kernel_rfl

theorem key9 (d : ByteArray) (h : d.size ≤ maxLen) : keyOf Try.prog 9 (.string d) = some (.string d.data.toList) := keyOf_string_mk Try.underlying9 h

theorem formed50 (a b : Value) : (Value.agg #[a, b]).formed Try.prog 50 = true := by
  simp [Value.formed, Try.underlying50, cells50]

theorem trod9 (w : World) (s : ByteArray) (h : s.size ≤ maxLen) : DataW.trod (fun _ : TypeId × Value => ()) Try.prog w 0 (fun _ => true) true 1 9 [.string s] = some (.lit (.string s.data.toList), []) := by
  simp [DataW.trod, Try.underlying9, h]

theorem key50 (l d : ByteArray) (hl : l.size ≤ maxLen) (hd : d.size ≤ maxLen) : ∃ kl, keyOf Try.prog 50 (.agg #[.string l, .string d]) = some kl := by
  have h := shut_agg2 (enc := fun _ : TypeId × Value => ()) (P := Try.prog) (w := (default : World)) (base := 0) (spare := fun _ => true) (held := true) (y0 := (.lit (.string l.data.toList), [])) (y1 := (.lit (.string d.data.toList), [])) Try.underlying50 (by kernel_rfl) cells50
    ⟨1, trod9 _ l hl⟩ ⟨1, trod9 _ d hd⟩
  exact ⟨_, (keyOf_asKey deep50 wide50 (formed50 _ _) h).1⟩

/-! ### A map of indexes -/

/-- The number at a key, as a datum. -/
def at0 (i : Nat) : DataW Unit := .lit (.int .i64 (i : Int))

/-- The map value 'mv' (type t, keys of type k) holds, at each key that 'ok' lets, what f says. 'lo': its block, if it has one, is among the call's own. -/
def MapIs (w : World) (B n : Nat) (k : TypeId) (ok : Value → Prop) (mv : Value) (f : Value → Option Nat) : Prop :=
  (mv = .map none ∧ ∀ v, ok v → f v = none) ∨
  ∃ b D, mv = .map (some b) ∧ B ≤ b ∧ w.ownsMap (H := Unit) Try.prog k (plainElem Try.prog 3) b n D ∧
    ∀ v kl, ok v → keyOf Try.prog k v = some kl → Maps.has D kl = (f v).isSome ∧ ∀ i, f v = some i → D.atKey kl (at0 0) = at0 i

theorem MapIs.look {w : World} {B n : Nat} {k t : TypeId} {ok : Value → Prop} {mv : Value} {f : Value → Option Nat} (h : MapIs w B n k ok mv f) (K : Keyed Try.prog k) (ht : Try.prog.underlying t = some (.map k 3))
    {key : Value} {kl : Lit} (hok : ok key) (hkey : keyOf Try.prog k key = some kl) :
    ∃ c : Int, (Instr.lookup t mv key true).run Try.prog w = .ok (.tuple #[.int .i64 c, .bool (f key).isSome]) w ∧ ∀ i, f key = some i → c = i := by
  rcases h with ⟨rfl, hn⟩ | ⟨b, D, rfl, _, hown, hf⟩
  · refine ⟨0, ?_, fun i hi => by rw [hn key hok] at hi; cases hi⟩
    rw [Maps.look_nil true K ht (zero3 w) hkey, hn key hok]
    rfl
  · obtain ⟨hh, hat⟩ := hf key kl hok hkey
    obtain ⟨v, ps, hrun, hv⟩ := hown.look_ok K ht (zero3 w) (plainElem_int Try.underlying3 (by decide)) hkey
    obtain ⟨a, rfl, hz, _⟩ := plainElem_int_inv Try.underlying3 hv
    refine ⟨a, by rw [hrun, hh], fun i hi => ?_⟩
    have e1 := hat i hi
    simp only [Prod.mk.injEq] at hz
    have e2 : D.atKey kl (at0 0) = .lit (.int .i64 a) := hz.1
    rw [e1] at e2
    simp only [at0, DataW.lit.injEq, Lit.int.injEq, true_and] at e2
    exact e2.symm

/-- The look-up, its number written out. -/
theorem MapIs.look2 {w : World} {B n : Nat} {k t : TypeId} {ok : Value → Prop} {mv : Value} {f : Value → Option Nat} (h : MapIs w B n k ok mv f) (K : Keyed Try.prog k) (ht : Try.prog.underlying t = some (.map k 3))
    {key : Value} {kl : Lit} (hok : ok key) (hkey : keyOf Try.prog k key = some kl) :
    (Instr.lookup t mv key true).run Try.prog w = .ok (.tuple #[.int .i64 (((f key).getD 0 : Nat) : Int), .bool (f key).isSome]) w := by
  rcases h with ⟨rfl, hn⟩ | ⟨b, D, rfl, _, hown, hf⟩
  · rw [Maps.look_nil true K ht (zero3 w) hkey, hn key hok]
    rfl
  · obtain ⟨hh, hat⟩ := hf key kl hok hkey
    obtain ⟨v, ps, hrun, hv⟩ := hown.look_ok K ht (zero3 w) (plainElem_int Try.underlying3 (by decide)) hkey
    obtain ⟨a, rfl, hz, _⟩ := plainElem_int_inv Try.underlying3 hv
    simp only [Prod.mk.injEq] at hz
    have e2 : D.atKey kl (at0 0) = .lit (.int .i64 a) := hz.1
    have ea : a = (((f key).getD 0 : Nat) : Int) := by
      cases hfk : f key with
      | none =>
        rw [hfk] at hh
        rw [Maps.atKey_of_not_has hh] at e2
        simp only [at0, DataW.lit.injEq, Lit.int.injEq, true_and] at e2
        exact e2.symm
      | some i =>
        rw [hat i hfk] at e2
        simp only [at0, DataW.lit.injEq, Lit.int.injEq, true_and] at e2
        exact e2.symm
    rw [hrun, hh, ea]

theorem MapIs.kept {w w' : World} {B n : Nat} {k : TypeId} {ok : Value → Prop} {mv : Value} {f : Value → Option Nat} {row : Option Nat} (h : MapIs w B n k ok mv f) (hg : w.grownBy w' row) (hne : ∀ b, mv = .map (some b) → some b ≠ row) : MapIs w' B n k ok mv f := by
  rcases h with h | ⟨b, D, rfl, hb, hown, hf⟩
  · exact Or.inl h
  · exact Or.inr ⟨b, D, rfl, hb, hown.kept hg (hne b rfl), hf⟩

theorem MapIs.congr {w : World} {B n : Nat} {k : TypeId} {ok : Value → Prop} {mv : Value} {f g : Value → Option Nat} (h : MapIs w B n k ok mv f) (he : ∀ v, ok v → f v = g v) : MapIs w B n k ok mv g := by
  rcases h with ⟨h1, h2⟩ | ⟨b, D, rfl, hb, hown, hf⟩
  · exact Or.inl ⟨h1, fun v hv => by rw [← he v hv]; exact h2 v hv⟩
  · exact Or.inr ⟨b, D, rfl, hb, hown, fun v kl hv hk => by rw [← he v hv]; exact hf v kl hv hk⟩

theorem MapIs.mono {w : World} {B n m : Nat} {k : TypeId} {ok : Value → Prop} {mv : Value} {f : Value → Option Nat} (h : MapIs w B n k ok mv f) (hm : n ≤ m) : MapIs w B m k ok mv f := by
  rcases h with h | ⟨b, D, rfl, hb, hown, hf⟩
  · exact Or.inl h
  · exact Or.inr ⟨b, D, rfl, hb, hown.mono hm, hf⟩

/-- A new map. -/
theorem MapIs.made (w : World) (B : Nat) (hB : B ≤ w.heap.size) (k : TypeId) (ok : Value → Prop) : MapIs (w.alloc (.map #[] 0)) B 0 k ok (.map (some w.heap.size)) (fun _ => none) :=
  Or.inr ⟨w.heap.size, .map [], rfl, hB, World.ownsMap_made _ _ _ _, fun _ _ _ _ => ⟨rfl, fun i hi => by cases hi⟩⟩

/-- A store at a key that was not there. -/
theorem MapIs.store {w : World} {B n b : Nat} {k t : TypeId} {ok : Value → Prop} {f : Value → Option Nat} (h : MapIs w B n k ok (.map (some b)) f) (K : Keyed Try.prog k) (ht : Try.prog.underlying t = some (.map k 3)) (hn : n < maxLen)
    {key : Value} {kl : Lit} (hkey : keyOf Try.prog k key = some kl) (i : Nat) (hi : i ≤ 1048576) :
    ∃ w', (Instr.mapUpdate t (.map (some b)) key (.int .i64 (i : Int))).run Try.prog w = .ok () w' ∧ w.grownBy w' (some b) ∧ (∀ a, w'.frozen? a = w.frozen? a) ∧ w'.heap.size = w.heap.size ∧
      ∀ g : Value → Option Nat, g key = some i → (∀ v, v ≠ key → g v = f v) → MapIs w' B (n + 1) k ok (.map (some b)) g := by
  rcases h with ⟨h, _⟩ | ⟨b', D, hb, hB, hown, hf⟩
  · cases h
  · simp only [Value.map.injEq, Option.some.injEq] at hb
    subst hb
    have hwf : (Lit.int .i64 (i : Int)).wf = true := WalkArith.wf_i64 (by omega)
    obtain ⟨w', hrun, hown', hturn⟩ := hown.store K ht hn hkey (plainElem_int Try.underlying3 hwf)
    have hsz : w'.heap.size = w.heap.size := by
      obtain ⟨es, cl, es', cl', _, rfl⟩ := hturn
      simp [ChangeMaps.setBlock]
    refine ⟨w', hrun, hturn.grown, hturn.frozen, hsz, fun g h1 h2 => Or.inr ⟨b, _, rfl, hB, hown', fun v kl' hv hk => ?_⟩⟩
    by_cases e : v = key
    · subst e
      rw [hkey] at hk
      obtain rfl := Option.some.inj hk
      rw [h1]
      refine ⟨Maps.has_put_same hown.isMap (K.key hkey) _, fun j hj => ?_⟩
      obtain rfl := Option.some.inj hj
      exact Maps.atKey_put_same hown.isMap (K.key hkey) _ _
    · have hne : kl' ≠ kl := fun e2 => e (K.inj (by rw [hk, e2]) hkey)
      rw [h2 v e, Maps.has_put_other hne, Maps.atKey_put_other hne]
      exact hf v kl' hv hk
end Go.Proofs.Qxb6000491a
