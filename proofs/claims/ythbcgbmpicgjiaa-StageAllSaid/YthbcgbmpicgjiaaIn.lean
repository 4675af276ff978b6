/- What a walk is told of an argument that came in: slices of integers, of structs of two integers; structs by value. -/
import Derived.Test.YthbcgbmpicgjiaaBase
import Derived.ProofKit
import Derived.OpenShut
import Derived.Lib.SmallJoins
import Derived.Deep.Slices
import Derived.Deep.SlicePairs
import Derived.Deep.Fields
import Derived.ChangeSame
namespace Go.Proofs.Ythbcgbmpicgjiaa
open Go.RowKit Go.WideShapes Go.ChangeShapes Go.Deep Go.Joins
set_option linter.unusedVariables false

/-- a slice of n integers: cells are asked for only where there are some. -/
structure IntsIn (k : IntKind) (w : World) (a : Option Addr) (n c : Nat) (zs : List Int) : Prop where
  len : zs.length = n
  le : n ≤ c
  max : c ≤ 9223372036854775807
  wf : ∀ z ∈ zs, (Lit.int k z).wf = true
  cells : 0 < n → ∃ b off, a = some ⟨b, off, none⟩ ∧ ∀ i, i < n → w.cell? ⟨b, off + i, none⟩ = some (.int k (zs.getD i 0))
/-- a slice of n structs of two integers. -/
structure PairsIn (k0 k1 : IntKind) (w : World) (a : Option Addr) (n c : Nat) (zs : List (Int × Int)) : Prop where
  len : zs.length = n
  le : n ≤ c
  max : c ≤ 9223372036854775807
  wf : ∀ z ∈ zs, (Lit.int k0 z.1).wf = true ∧ (Lit.int k1 z.2).wf = true
  cells : 0 < n → ∃ b off, a = some ⟨b, off, none⟩ ∧ ∀ i, i < n → w.cell? ⟨b, off + i * 2, none⟩ = some (.int k0 (zs.getD i (0, 0)).1) ∧ w.cell? ⟨b, off + i * 2 + 1, none⟩ = some (.int k1 (zs.getD i (0, 0)).2)

section
variable {H : Type} {enc : TypeId × Value → H} {P : Program} {w : World} {base : Nat} {spare : Nat → Bool} {held : Bool}
theorem intsIn_of {k : IntKind} {t e : TypeId} {a : Option Addr} {n c : Nat} {d : DataW H} {p : List MemPlace} (ht : P.underlying t = some (.slice e)) (he : P.underlying e = some (.int k)) (hc : P.cellsOf e = 1)
    (h : DataW.Trod enc P w base spare held t (.slice a n c) d p) : ∃ zs, IntsIn k w a n c zs := by
  obtain ⟨fuel, hf⟩ := h
  rcases open_ints ht he hc hf with ⟨hcs, _⟩ | ⟨x, l, c', zs, hcs, _, hl, hm, hz, _, hcell, hwz⟩
  · simp [Value.cells] at hcs
    obtain ⟨rfl, rfl, rfl⟩ := hcs
    exact ⟨[], rfl, Nat.le_refl _, by omega, by simp, fun h => absurd h (by omega)⟩
  · simp [Value.cells] at hcs
    obtain ⟨rfl, rfl, rfl⟩ := hcs
    have hln : n ≤ zs.length := by rw [hz]; split <;> omega
    have hm' : c ≤ 9223372036854775807 := by unfold maxLen at hm; omega
    refine ⟨zs.take n, by simp [hln], hl, hm', fun z hz => hwz z (List.mem_of_mem_take hz), fun h0 => ?_⟩
    obtain ⟨b, off, rfl, hc⟩ := ints_at hcell (by omega)
    refine ⟨b, off, rfl, fun i hi => ?_⟩
    rw [hc i (by omega)]
    simp only [List.getD_eq_getElem?_getD, List.getElem?_take, hi, if_true]
theorem pairsIn_of {k0 k1 : IntKind} {t e : TypeId} {f0 f1 : Field} {a : Option Addr} {n c : Nat} {d : DataW H} {p : List MemPlace} (ht : P.underlying t = some (.slice e)) (he : P.underlying e = some (.struct #[f0, f1]))
    (ce : P.cellsOf e = 2) (o0 : f0.offset = 0) (o1 : f1.offset = 1) (c0 : P.cellsOf f0.type = 1) (c1 : P.cellsOf f1.type = 1) (u0 : P.underlying f0.type = some (.int k0)) (u1 : P.underlying f1.type = some (.int k1))
    (h : DataW.Trod enc P w base spare held t (.slice a n c) d p) : ∃ zs, PairsIn k0 k1 w a n c zs := by
  obtain ⟨fuel, hf⟩ := h
  rcases open_slice_pairs ht he ce o0 o1 c0 c1 hf with ⟨hcs, _⟩ | ⟨x, l, c', m, fu, V0, V1, D0, D1, P0, P1, hcs, _, hl, hm, hz, _, hi⟩
  · simp [Value.cells] at hcs
    obtain ⟨rfl, rfl, rfl⟩ := hcs
    exact ⟨[], rfl, Nat.le_refl _, by omega, by simp, fun h => absurd h (by omega)⟩
  · simp [Value.cells] at hcs
    obtain ⟨rfl, rfl, rfl⟩ := hcs
    have hln : n ≤ m := by rw [hz]; split <;> omega
    have hm' : c ≤ 9223372036854775807 := by unfold maxLen at hm; omega
    have hv : ∀ i, i < n → ∃ z : Int × Int, V0 i = .int k0 z.1 ∧ V1 i = .int k1 z.2 ∧ (Lit.int k0 z.1).wf = true ∧ (Lit.int k1 z.2).wf = true := fun i hin => by
      obtain ⟨_, _, h0, h1⟩ := hi i (by omega)
      obtain ⟨y0, e0, _, w0⟩ := DataW.trod_int u0 h0
      obtain ⟨y1, e1, _, w1⟩ := DataW.trod_int u1 h1
      simp at e0 e1
      exact ⟨(y0, y1), e0, e1, w0, w1⟩
    obtain ⟨Z, hZ⟩ := choose_lt hv
    refine ⟨(List.range n).map Z, by simp, hl, hm', fun z hz => ?_, fun h0 => ?_⟩
    · obtain ⟨i, hin, rfl⟩ := List.mem_map.1 hz
      have := hZ i (by simpa using hin)
      exact ⟨this.2.2.1, this.2.2.2⟩
    · obtain ⟨b, off, spot⟩ := x
      have h00 := (hi 0 (by omega)).1
      have hspot : spot = none := by simpa [Addr.add] using World.cell?_spot h00
      subst hspot
      refine ⟨b, off, rfl, fun i hin => ?_⟩
      obtain ⟨h0, h1, _, _⟩ := hi i (by omega)
      rw [Go.WideShapes.add_plain] at h0 h1
      obtain ⟨e0, e1, _, _⟩ := hZ i hin
      rw [e0] at h0
      rw [e1] at h1
      have hg : ((List.range n).map Z).getD i (0, 0) = Z i := by simp [List.getD_eq_getElem?_getD, hin]
      rw [hg]
      exact ⟨h0, h1⟩
theorem open_agg5 {r : Reach} {b0 : Nat} {t : TypeId} {f0 f1 f2 f3 f4 : Field} {v : Value} {d : DataW H} {p : List MemPlace} (hs : P.underlying t = some (.struct #[f0, f1, f2, f3, f4])) (hone : oneCellFields P #[f0, f1, f2, f3, f4] = true) (hC : P.cellsOf t = 5)
    (hv : Value.okWide P w r b0 t v) (h : DataW.Trod enc P w base spare held t v d p) :
    ∃ (v0 v1 v2 v3 v4 : Value) (y0 y1 y2 y3 y4 : DataW H × List MemPlace) (n : Nat), v = .agg #[v0, v1, v2, v3, v4] ∧
      DataW.trod enc P w base spare held n f0.type [v0] = some y0 ∧ DataW.trod enc P w base spare held n f1.type [v1] = some y1 ∧ DataW.trod enc P w base spare held n f2.type [v2] = some y2 ∧ DataW.trod enc P w base spare held n f3.type [v3] = some y3 ∧ DataW.trod enc P w base spare held n f4.type [v4] = some y4 := by
  obtain ⟨cs, rfl, hsz⟩ := okWide_struct hs hv
  obtain ⟨l⟩ := cs
  match l, hsz.trans hC with
  | [c0, c1, c2, c3, c4], _ =>
    obtain ⟨fuel, hf⟩ := h
    obtain ⟨xs, n, _, hx, _, hlen, hg⟩ := DataW.trod_struct hs hf
    obtain ⟨o0, k0⟩ := hone_of hone 0 f0 rfl
    obtain ⟨o1, k1⟩ := hone_of hone 1 f1 rfl
    obtain ⟨o2, k2⟩ := hone_of hone 2 f2 rfl
    obtain ⟨o3, k3⟩ := hone_of hone 3 f3 rfl
    obtain ⟨o4, k4⟩ := hone_of hone 4 f4 rfl
    match xs, hlen with
    | [y0, y1, y2, y3, y4], _ =>
      exact ⟨c0, c1, c2, c3, c4, y0, y1, y2, y3, y4, n, rfl, by simpa [Value.cells, o0, k0] using hg 0 f0 rfl, by simpa [Value.cells, o1, k1] using hg 1 f1 rfl, by simpa [Value.cells, o2, k2] using hg 2 f2 rfl, by simpa [Value.cells, o3, k3] using hg 3 f3 rfl, by simpa [Value.cells, o4, k4] using hg 4 f4 rfl⟩
end
end Go.Proofs.Ythbcgbmpicgjiaa
