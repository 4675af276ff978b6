/- Laws of what is printed and read, in plain Lean. -/
import Derived.Test.YtcpfooceadgccaaDoorDigLR
set_option linter.unusedVariables false
set_option linter.unusedSimpArgs false
namespace Go.Proofs.YtcpfooceadgccaaDoor.Dig
open Go

theorem digs_pos_head (m : Nat) (b : UInt8) (h : (digs m).head? = some b) : dig b = true := by
  have := digs_all m
  cases hd : digs m with
  | nil => exact absurd hd (digs_ne m)
  | cons c t => rw [hd] at h this; simp at h; rw [← h]; rw [List.all_cons, Bool.and_eq_true] at this; exact this.1

theorem readBody_digs (s : Bool) (m : Nat) : readBody s (digs m) = some (norm ⟨s, digs m, 0⟩) := by
  have hr : run (digs m) = (digs m).length := run_all _ (digs_all m)
  have hl : 0 < (digs m).length := List.length_pos_iff.2 (digs_ne m)
  unfold readBody
  rw [hr, if_neg, List.drop_length, if_neg (by simp), List.take_length]
  · rfl
  · rintro (h | ⟨h1, h2⟩)
    · omega
    · rcases Nat.eq_zero_or_pos m with h0 | h0
      · subst h0; rw [digs_zero] at h1; simp at h1
      · exact digs_head m h0 h2

theorem read_print (n : Int) : read (print n) = some (norm ⟨decide (n < 0), digs n.natAbs, 0⟩) := by
  unfold print
  by_cases hn : n < 0
  · rw [if_pos hn, decide_eq_true hn]
    show readBody true (digs n.natAbs) = _
    exact readBody_digs _ _
  · rw [if_neg hn, decide_eq_false hn]
    unfold read
    rw [if_neg (fun h => by have := digs_pos_head _ _ h; exact absurd this (by decide))]
    exact readBody_digs _ _

theorem core_eq_nil_val (l : Bs) (h : core l = []) : val l = 0 := by
  have := val_core l
  rw [h] at this
  simp [val] at this
  unfold val
  omega

/-- a whole number's digits, with noughts in the exponent: the integer -/
theorem int_of (s : Bool) (d : Bs) (e : Nat) (hd : d.all dig = true) :
    int ⟨s, d, e⟩ = if 9007199254740991 < val d * 10 ^ e then (0, 8) else ((if s = true then -((val d * 10 ^ e : Nat) : Int) else ((val d * 10 ^ e : Nat) : Int)), 0) := by
  by_cases hc : core d = []
  · have hv := core_eq_nil_val d hc
    have : norm ⟨s, d, e⟩ = zero := by unfold norm; rw [if_pos hc]
    unfold int
    rw [this, hv, Nat.zero_mul, if_neg (by omega)]
    cases s <;> rfl
  · have hn : norm ⟨s, d, e⟩ = ⟨s, core d, (e : Int) + (((cutL d).length : Int) - ((core d).length : Int))⟩ := by unfold norm; rw [if_neg hc]
    have hle : (core d).length ≤ (cutL d).length := cutR_le _
    have he : ((e : Int) + (((cutL d).length : Int) - ((core d).length : Int))) = ((e + ((cutL d).length - (core d).length) : Nat) : Int) := by omega
    have hval : val (core d) * 10 ^ (e + ((cutL d).length - (core d).length)) = val d * 10 ^ e := by
      rw [Nat.add_comm, Nat.pow_add, ← Nat.mul_assoc, val_core]
    have hcd := core_all d hd
    unfold int
    rw [hn, he]
    unfold intN
    rw [if_neg (by show ¬ ((_ : Nat) : Int) < 0; omega)]
    have ht : ((e + ((cutL d).length - (core d).length) : Nat) : Int).toNat = e + ((cutL d).length - (core d).length) := Int.toNat_natCast _
    simp only [ht, hval]
    by_cases h16 : (16 : Int) < ((core d).length : Int) + ((e + ((cutL d).length - (core d).length) : Nat) : Int)
    · rw [if_pos h16, if_pos]
      have h1 := val_ge (core d) hc hcd (core_head d)
      have h2 : 10 ^ ((core d).length - 1) * 10 ^ (e + ((cutL d).length - (core d).length)) ≤ val d * 10 ^ e := by rw [← hval]; exact Nat.mul_le_mul_right _ h1
      rw [← Nat.pow_add] at h2
      have hpos : 0 < (core d).length := List.length_pos_iff.2 hc
      have h3 : 10 ^ 16 ≤ 10 ^ ((core d).length - 1 + (e + ((cutL d).length - (core d).length))) := Nat.pow_le_pow_right (by omega) (by omega)
      have h4 : (10 : Nat) ^ 16 = 10000000000000000 := by decide
      omega
    · rw [if_neg h16]

theorem int_norm (x : Dec) : int (norm x) = int x := by unfold int; rw [norm_norm]

theorem int_print (s : Bool) (m : Nat) : int (norm ⟨s, digs m, 0⟩) = if 9007199254740991 < m then (0, 8) else ((if s = true then -(m : Int) else (m : Int)), 0) := by
  rw [int_norm]
  have := int_of s (digs m) 0 (digs_all m)
  rw [Nat.pow_zero, Nat.mul_one, val_digs] at this
  exact this

theorem digs_length_le (k : Nat) : ∀ n, n < 10 ^ (k + 1) → (digs n).length ≤ k + 1 := by
  induction k with
  | zero => intro n hn; unfold digs; rw [if_pos (by omega)]; simp
  | succ k ih =>
    intro n hn
    unfold digs
    split
    · simp
    · have := ih (n / 10) (by rw [Nat.pow_succ] at hn; omega)
      simp
      omega
theorem norm_all (x : Dec) (h : x.d.all dig = true) : (norm x).d.all dig = true := by rw [norm_d]; exact core_all _ h
end Go.Proofs.YtcpfooceadgccaaDoor.Dig
