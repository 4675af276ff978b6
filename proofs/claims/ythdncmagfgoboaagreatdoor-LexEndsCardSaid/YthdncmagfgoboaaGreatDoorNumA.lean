/- The law's pushes of a text, and its awake, of the layer of numbers byte by byte. -/
import Derived.Test.YthdncmagfgoboaaGreatDoorNumE
namespace Go.Proofs.YthdncmagfgoboaaGreatDoor
open Go.RowKit
set_option maxRecDepth 100000
set_option maxHeartbeats 4000000
set_option linter.unusedVariables false
set_option linter.unusedSimpArgs false

namespace Num
open Go.Proofs.YthdncmagfgoboaaGreatDoor.Dig (Bs)
theorem why_or (n : St) : why n = 7 ∨ why n = 8 := by unfold why; split <;> simp
theorem fin_cases {n : St} {r : Except Nat St} (h : r = fin n) : (r = .ok n) ∨ ∃ k, r = .error k ∧ (k = 2 ∨ k = 7 ∨ k = 8) := by
  subst h
  unfold fin
  split
  · exact .inl rfl
  · exact .inr ⟨_, rfl, .inr (why_or n)⟩
/-- each way of one byte more -/
theorem push_ways (n : St) (x L : Nat) (hx : x < 256) (h : n.OkL L) : (∃ n', push n x = .ok n' ∧ n'.OkL (L + 1)) ∨ ∃ k, push n x = .error k ∧ (k = 2 ∨ k = 7 ∨ k = 8) := by
  have use : ∀ n2, push n x = fin n2 → n2.OkL (L + 1) → (∃ n', push n x = .ok n' ∧ n'.OkL (L + 1)) ∨ ∃ k, push n x = .error k ∧ (k = 2 ∨ k = 7 ∨ k = 8) := fun n2 h1 h2 => by
    rcases fin_cases h1 with h3 | h3
    · exact .inl ⟨n2, h3, h2⟩
    · exact .inr h3
  cases hn : next n.at_ x with
  | none => exact .inr ⟨2, by unfold push; rw [hn], .inl rfl⟩
  | some p =>
    have hp8 := next_le _ _ _ hn
    have hfig := next_fig _ _ _ hn
    have hcase : (p = 2 ∨ p = 3 ∨ p = 5) ∨ p = 7 ∨ p = 8 ∨ (p = 0 ∨ p = 1 ∨ p = 4 ∨ p = 6) := by omega
    have hA : (setA n p).OkL L := ⟨hp8, h.m, h.zeros, h.behind, h.e⟩
    rcases hcase with hp | rfl | rfl | hp
    · cases hD : digit (x - 48) (p == 5) (setA n p) with
      | some n2 => exact use n2 (push_digit_yes hn hp hD) (digit_okL hA (by have := hfig (by omega); omega) hD)
      | none => exact .inr ⟨_, push_digit_no hn hp hD 0 0, .inr (why_or _)⟩
    · exact use _ (push_sign hn) ⟨hp8, h.m, Nat.le_succ_of_le h.zeros, Nat.le_succ_of_le h.behind, h.e⟩
    · exact use _ (push_power hn) ⟨hp8, h.m, Nat.le_succ_of_le h.zeros, Nat.le_succ_of_le h.behind, Nat.min_le_right _ _⟩
    · exact use _ (push_other hn hp) ⟨hp8, h.m, Nat.le_succ_of_le h.zeros, Nat.le_succ_of_le h.behind, h.e⟩

/-- bytes, one by one: how many were OK, the error, the number -/
def pushAll : St → Bs → Nat × Nat × St
  | n, [] => (0, 0, n)
  | n, c :: r => match push n c.toNat with
    | .error k => (0, k, n)
    | .ok n' => ((pushAll n' r).1 + 1, (pushAll n' r).2)

theorem start_ok : St.start.OkL 0 := ⟨by decide, by decide, Nat.le_refl _, Nat.le_refl _, by decide⟩
end Num

theorem NumF.keep {w w' : World} {F : List Nat} {b : Nat} {l : List UInt8} {n : Num.St} {g : Option Nat} {tv : Value} (h : NumF w b l n g tv) (ht : Touch F w w') (hb : b ∉ F) (hg : ∀ k, g = some k → k ∉ F) : NumF w' b l n g tv :=
  ⟨ht.keep h.n hb, h.s.keep ht hg, h.g⟩
theorem NumF.lt {w : World} {b : Nat} {l : List UInt8} {n : Num.St} {g : Option Nat} {tv : Value} (h : NumF w b l n g tv) : b < w.heap.size := block_lt h.n

end Go.Proofs.YthdncmagfgoboaaGreatDoor
