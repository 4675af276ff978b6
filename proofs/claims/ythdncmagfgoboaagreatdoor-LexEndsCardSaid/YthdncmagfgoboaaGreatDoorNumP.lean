/- The program's layer of numbers byte by byte: its small functions. -/
import Derived.Test.YthdncmagfgoboaaGreatDoorNumM
import Derived.Test.YthdncmagfgoboaaGreatDoorXN14
import Derived.Test.YthdncmagfgoboaaGreatDoorBB
import Derived.Deep.DeepCutAuto
import Derived.Outline
namespace Go.Proofs.YthdncmagfgoboaaGreatDoor
open Go.RowKit
open Go.Proofs.YthdncmagfgoboaaGreatDoorW.PrintWords (mx mn Drawn0)
set_option maxRecDepth 100000
set_option maxHeartbeats 4000000
set_option linter.unusedVariables false
set_option linter.unusedSimpArgs false

def NumC (tv : Value) (n : Num.St) : Array Value := #[tv, .int .i64 n.at_, .int .u64 n.m, .int .i64 n.zeros, .int .i64 n.behind, .bool n.below, .int .i64 n.e]
/-- a number under way lies at b -/
def NumAt (w : World) (b : Nat) (tv : Value) (n : Num.St) : Prop := w.heap[b]? = some (.cells (NumC tv n) 114 (0, 0))

theorem next_eq (a x : Nat) (ha : a ≤ 8) : ∃ r : Int, XN1.number_next.f 5 a x = some (r, (Num.next a x).isSome) ∧ (∀ p : Nat, Num.next a x = some p → r = p) := by
  have e43 : ((x : Int) == 43) = decide (x = 43) := by rw [Bool.eq_iff_iff]; simp; omega
  have e69 : ((x : Int) == 69) = decide (x = 69) := by rw [Bool.eq_iff_iff]; simp; omega
  have e45 : ((x : Int) = 45) = (x = 45) := by simp; omega
  have e48 : ((x : Int) = 48) = (x = 48) := by simp; omega
  have e46 : ((x : Int) = 46) = (x = 46) := by simp; omega
  have e101 : ((x : Int) = 101) = (x = 101) := by simp; omega
  have e43' : ((x : Int) = 43) = (x = 43) := by simp; omega
  have g48 : ((x : Int) ≥ 48) = (48 ≤ x) := by simp; omega
  have g57 : ((x : Int) ≤ 57) = (x ≤ 57) := by simp; omega
  have hc : a = 0 ∨ a = 1 ∨ a = 2 ∨ a = 3 ∨ a = 4 ∨ a = 5 ∨ a = 6 ∨ a = 7 ∨ a = 8 := by omega
  unfold XN1.number_next.f Num.next
  simp only [XN1.number_next.j0, XN1.number_next.j1, e43, e69, e45, e48, e46, e101, e43', g48, g57]
  rcases hc with rfl | rfl | rfl | rfl | rfl | rfl | rfl | rfl | rfl
  all_goals
    simp
    try (by_cases h1 : 48 ≤ x <;> by_cases h2 : x ≤ 57 <;> by_cases h3 : x = 45 <;> by_cases h4 : x = 46 <;> by_cases h5 : x = 101 <;> by_cases h6 : x = 69 <;> by_cases h7 : x = 43 <;> by_cases h8 : x = 48 <;> first | (exfalso; omega) | (simp [h1, h2, h3, h4, h5, h6, h7, h8]; done) | (subst x; simp; done) | skip)

theorem leads_false (a b : Int) (ha : 0 ≤ a) (hb : b ≤ 10000000) : ∀ (f low high : Nat), 1 ≤ low → high < 2 * low → b < low → Num.far < low * 10 ^ f →
    XN1.number_leads.l0 (f + 1) a b low high = some false
  | 0, low, high, h1, h2, h3, h4 => by
    unfold XN1.number_leads.l0
    rw [if_neg (by unfold Num.far at h4; omega)]
    split
    · rw [decide_eq_false (by omega)]
    · rfl
  | f + 1, low, high, h1, h2, h3, h4 => by
    unfold XN1.number_leads.l0
    by_cases hl : (low : Int) ≤ 1000000000
    · rw [if_pos hl, if_neg (by unfold mx mn; split <;> split <;> (try split) <;> omega)]
      have e1 : wrap64 (10 * (low : Int)) = ((10 * low : Nat) : Int) := by unfold wrap64; omega
      have e2 : wrap64 (wrap64 (10 * (high : Int)) + 9) = ((10 * high + 9 : Nat) : Int) := by unfold wrap64; omega
      rw [e1, e2]
      exact leads_false a b ha hb f (10 * low) (10 * high + 9) (by omega) (by omega) (by omega) (by rw [Nat.pow_succ] at h4; rw [show 10 * low * 10 ^ f = low * (10 ^ f * 10) by rw [Nat.mul_comm 10 low, Nat.mul_assoc, Nat.mul_comm 10]]; exact h4)
    · rw [if_neg hl]
      split
      · rw [decide_eq_false (by omega)]
      · rfl

theorem leads_meets (a b : Int) (ha : 0 ≤ a) (hab : a ≤ b) (hb : b ≤ 10000000) : ∀ (f low high : Nat), 1 ≤ low → low ≤ high → high < 2 * low → Num.far < low * 10 ^ f →
    XN1.number_leads.l0 (f + 1) a b low high = some (Num.meets f low high a b)
  | 0, low, high, h1, h0, h2, h4 => by
    rw [leads_false a b ha hb 0 low high h1 h2 (by unfold Num.far at h4; omega) h4]
    rfl
  | f + 1, low, high, h1, h0, h2, h4 => by
    by_cases h3 : b < low
    · rw [leads_false a b ha hb (f + 1) low high h1 h2 h3 h4]
      unfold Num.meets
      rw [if_neg (by omega)]
    · unfold XN1.number_leads.l0 Num.meets
      have p1 : (low : Int) ≤ 1000000000 := by omega
      have p2 : (low : Int) ≤ b := by omega
      rw [if_pos p1, if_pos p2]
      by_cases h5 : a ≤ (high : Int)
      · rw [if_pos h5, if_pos (by unfold mx mn; split <;> split <;> (try split) <;> omega)]
      · rw [if_neg h5, if_neg (by unfold mx mn; split <;> split <;> (try split) <;> omega)]
        have e1 : wrap64 (10 * (low : Int)) = ((10 * low : Nat) : Int) := by unfold wrap64; omega
        have e2 : wrap64 (wrap64 (10 * (high : Int)) + 9) = ((10 * high + 9 : Nat) : Int) := by unfold wrap64; omega
        rw [e1, e2]
        exact leads_meets a b ha hab hb f (10 * low) (10 * high + 9) (by omega) (by omega) (by omega) (by rw [Nat.pow_succ] at h4; rw [show 10 * low * 10 ^ f = low * (10 ^ f * 10) by rw [Nat.mul_comm 10 low, Nat.mul_assoc, Nat.mul_comm 10]]; exact h4)

theorem leads_eq (e : Nat) (begun : Bool) (a b : Int) (he : e ≤ 1000000000) (ha : -10000000 ≤ a) (ha' : a ≤ 10000000) (hb : b ≤ 10000000) :
    XN1.number_leads.f 15 e begun a b = some (Num.leads e begun a b) := by
  have hm : mx a 0 = max a 0 := by unfold mx; split <;> omega
  unfold XN1.number_leads.f Num.leads
  rw [hm]
  by_cases h1 : b < max a 0
  · rw [if_pos (by omega), if_pos h1]
  · rw [if_neg (by omega), if_neg h1]
    cases begun with
    | false =>
      rw [if_neg (by simp), if_pos (Or.inl rfl)]
      simp only [XN1.number_leads.j0, if_true]
      rw [decide_eq_true (by omega)]
    | true =>
      rw [if_pos rfl]
      simp only [XN1.number_leads.j0]
      by_cases h2 : e = 0
      · rw [if_pos (by rw [h2]; rfl), if_pos (Or.inr h2), decide_eq_true (by omega)]
      · rw [if_neg (by simpa using h2), if_neg (by simp [h2])]
        rw [show (14 : Nat) = 13 + 1 from rfl]
        have hx := leads_meets (max a 0) b (by omega) (by omega) hb 12 e e (by omega) (Nat.le_refl _) (by omega) (by unfold Num.far; omega)
        exact (XN1.number_leads.mono_l 13).2 (max a 0) b e e _ hx
end Go.Proofs.YthdncmagfgoboaaGreatDoor
