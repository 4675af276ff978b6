/- One of the texts that lead to the theorem lexPlays.proved: the conditions stand in each theorem. -/
import Derived.Test.YthdncmagfgoboaaGreatDoorP6
import Derived.ProofKit
import Derived.OpenShut
import Derived.Lib.SmallJoins
import Derived.Deep.Slices
import Derived.Deep.SlicePairs
import Derived.Deep.Fields
import Derived.ChangeSame
set_option linter.unusedSimpArgs false
set_option linter.unusedVariables false
namespace Go.Proofs.YthdncmagfgoboaaGreatDoor
open Go.RowKit Go.WideShapes Go.ChangeShapes Go.Deep Go.Joins
structure xV (k : IntKind) (w : World) (a : Option Addr) (n c : Nat) (zs : List Int) : Prop where
 len : zs.length = n
 le : n ≤ c
 max : c ≤ 9223372036854775807
 wf : ∀ z ∈ zs, (Lit.int k z).wf = true
 cells : 0 < n → ∃ b off, a = some ⟨b, off, none⟩ ∧ ∀ i, i < n → w.cell? ⟨b, off + i, none⟩ = some (.int k (zs.getD i 0))
section
variable {H : Type} {enc : TypeId × Value → H} {P : Program} {w : World} {base : Nat} {spare : Nat → Bool} {held : Bool}
theorem uJ {k : IntKind} {t e : TypeId} {a : Option Addr} {n c : Nat} {d : DataW H} {p : List MemPlace} (ht : P.underlying t = some (.slice e)) (he : P.underlying e = some (.int k)) (hc : P.cellsOf e = 1)
 (h : DataW.Trod enc P w base spare held t (.slice a n c) d p) : ∃ zs, xV k w a n c zs := by
 obtain ⟨fuel, hf⟩ := h
 rcases open_ints ht he hc hf with ⟨hcs, _⟩ | ⟨x, l, c', zs, hcs, _, hl, hm, hz, _, hcell, hwz⟩
 · simp [Value.cells] at hcs
   obtain ⟨rfl, rfl, rfl⟩ := hcs
   exact ⟨[], rfl, Nat.le_refl _, by omega, by simp, fun h => absurd h (by omega)⟩
 · simp [Value.cells] at hcs
   obtain ⟨rfl, rfl, rfl⟩ := hcs
   have hln : n ≤ zs.length := by rw [hz]; split <;> omega
   have hm' : c ≤ 9223372036854775807 := by unfold maxLen at hm; omega
   refine ⟨zs.take n, by simp [hln], hl, hm', fun z hz => hwz z (List.mem_of_mem_take hz), fun h0 => ?_⟩
   obtain ⟨b, off, rfl, hc⟩ := ints_at hcell (by omega)
   refine ⟨b, off, rfl, fun i hi => ?_⟩
   rw [hc i (by omega)]
   simp only [List.getD_eq_getElem?_getD, List.getElem?_take, hi, if_true]
end
end Go.Proofs.YthdncmagfgoboaaGreatDoor
