/- Laws of what is read, in plain Lean: by places in the text. -/
import Derived.Test.YtcpfooceadgccaaDoorDigL
set_option linter.unusedVariables false
set_option linter.unusedSimpArgs false
namespace Go.Proofs.YtcpfooceadgccaaDoor.Dig
open Go

theorem head_drop (l : Bs) (i : Nat) : (l.drop i).head? = l[i]? := by rw [List.head?_eq_getElem?, List.getElem?_drop]; simp
theorem read_neg (l : Bs) (h : l[0]? = some 45) : read l = readBody true (l.drop 1) := by
  cases l with
  | nil => simp at h
  | cons c t => unfold read; rw [if_pos (by simpa using h)]; rfl
theorem read_pos (l : Bs) (h : ¬ l[0]? = some 45) : read l = readBody false (l.drop 0) := by
  unfold read
  rw [if_neg (by rw [List.head?_eq_getElem?]; exact h)]
  rfl
theorem readBody_bad (sg : Bool) (l : Bs) (i n : Nat) (hn : n = run (l.drop i)) (h : n = 0 ∨ (1 < n ∧ l[i]? = some 48)) : readBody sg (l.drop i) = none := by
  unfold readBody
  rw [if_pos (by rw [← hn, head_drop]; exact h)]
/-- behind the digits, with no point -/
theorem readBody_plain (sg : Bool) (l : Bs) (i n : Nat) (hn : n = run (l.drop i)) (h : ¬ (n = 0 ∨ (1 < n ∧ l[i]? = some 48))) (hp : ¬ l[i + n]? = some 46) :
    readBody sg (l.drop i) = (readExp (l.drop (i + n))).map fun e => norm ⟨sg, (l.drop i).take n, 0 + e⟩ := by
  unfold readBody
  rw [if_neg (by rw [← hn, head_drop]; exact h), ← hn, List.drop_drop, if_neg (by rw [head_drop]; exact hp)]
  simp
theorem readBody_point_bad (sg : Bool) (l : Bs) (i n : Nat) (hn : n = run (l.drop i)) (h : ¬ (n = 0 ∨ (1 < n ∧ l[i]? = some 48))) (hp : l[i + n]? = some 46) (h2 : run (l.drop (i + n + 1)) = 0) :
    readBody sg (l.drop i) = none := by
  unfold readBody
  rw [if_neg (by rw [← hn, head_drop]; exact h), ← hn, List.drop_drop, if_pos (by rw [head_drop]; exact hp), List.drop_drop, if_pos (by rw [show i + (n + 1) = i + n + 1 by omega]; exact h2)]
theorem readBody_point (sg : Bool) (l : Bs) (i n m : Nat) (hn : n = run (l.drop i)) (h : ¬ (n = 0 ∨ (1 < n ∧ l[i]? = some 48))) (hp : l[i + n]? = some 46) (h2 : m = run (l.drop (i + n + 1))) (h3 : m ≠ 0) :
    readBody sg (l.drop i) = (readExp (l.drop (i + n + 1 + m))).map fun e => norm ⟨sg, (l.drop i).take n ++ (l.drop (i + n + 1)).take m, -(m : Int) + e⟩ := by
  unfold readBody
  rw [if_neg (by rw [← hn, head_drop]; exact h), ← hn, List.drop_drop, if_pos (by rw [head_drop]; exact hp), List.drop_drop, show i + (n + 1) = i + n + 1 by omega, ← h2, if_neg h3, List.drop_drop, show i + (n + 1 + m) = i + n + 1 + m by omega]
/-- what stands behind e -/
def expSign (l : Bs) (k : Nat) : Nat := if l[k]? = some 45 ∨ l[k]? = some 43 then k + 1 else k
theorem readExp_none (l : Bs) (j : Nat) (h : ¬ (l[j]? = some 101 ∨ l[j]? = some 69)) : readExp (l.drop j) = if j < l.length then none else some 0 := by
  cases hd : l.drop j with
  | nil => rw [if_neg (by have := List.drop_eq_nil_iff.1 hd; omega)]; rfl
  | cons c t =>
    have hc : l[j]? = some c := by have := head_drop l j; rw [hd] at this; exact this.symm
    rw [hc] at h
    have hj := (List.getElem?_eq_some_iff.1 hc).1
    rw [if_pos hj]
    unfold readExp
    exact if_neg (by simpa using h)
theorem readExp_e (l : Bs) (j : Nat) (h : l[j]? = some 101 ∨ l[j]? = some 69) :
    readExp (l.drop j) = (expDigits (l.drop (expSign l (j + 1)))).map fun n => if l[j + 1]? = some 45 then -(n : Int) else (n : Int) := by
  cases hd : l.drop j with
  | nil => have := head_drop l j; rw [hd] at this; rw [← this] at h; simp at h
  | cons c t =>
    have hc : l[j]? = some c := by have := head_drop l j; rw [hd] at this; exact this.symm
    rw [hc] at h
    have ht : t = l.drop (j + 1) := by rw [← List.drop_drop (i := 1) (j := j), hd]; rfl
    have hh : t.head? = l[j + 1]? := by rw [ht, head_drop]
    have e0 : readExp (c :: t) = if t.head? = some 45 then (expDigits t.tail).map (fun n => -(n : Int)) else if t.head? = some 43 then (expDigits t.tail).map (fun n => (n : Int)) else (expDigits t).map (fun n => (n : Int)) := by
      conv => lhs; unfold readExp
      exact if_pos (by simpa using h)
    rw [e0, hh]
    unfold expSign
    have htl : t.tail = l.drop (j + 1 + 1) := by rw [ht, List.tail_drop]
    by_cases h1 : l[j + 1]? = some 45
    · simp only [h1, if_true, true_or, htl]
    · by_cases h2 : l[j + 1]? = some 43
      · rw [if_neg h1, if_pos h2, if_pos (Or.inr h2), htl]
        simp only [if_neg h1]
      · rw [if_neg h1, if_neg h2, if_neg (by simp [h1, h2]), ht]
        simp only [if_neg h1]
theorem run_take (u : Bs) : (u.take (run u)).all dig = true := by
  unfold run
  induction u with
  | nil => rfl
  | cons c u ih =>
    rw [List.takeWhile_cons]
    cases hc : dig c with
    | false => rfl
    | true => simpa [hc] using ih
theorem expDigits_eq (u : Bs) (m : Nat) (hm : m = run u) : expDigits u = if m = 0 ∨ m < u.length then none else some ((u.take m).foldl expo 0) := by
  unfold expDigits
  by_cases h0 : m = 0
  · rw [if_pos (Or.inl h0), if_pos]
    cases u with
    | nil => exact Or.inl rfl
    | cons c u =>
      right
      have : dig c = false := by
        cases hc : dig c with
        | false => rfl
        | true => rw [hm] at h0; unfold run at h0; rw [List.takeWhile_cons, hc] at h0; simp at h0
      simp [this]
  · by_cases h1 : m < u.length
    · rw [if_pos (Or.inr h1), if_pos]
      right
      rw [List.all_eq_false]
      rcases run_end u with h2 | ⟨b, hb, h2⟩
      · rw [← hm] at h2; rw [List.getElem?_eq_none_iff] at h2; omega
      · exact ⟨b, List.mem_of_getElem? hb, by unfold dig; simp; omega⟩
    · have hu : u.take m = u := List.take_of_length_le (by omega)
      have ha : u.all dig = true := by have := run_take u; rw [← hm, hu] at this; exact this
      rw [if_neg (c := m = 0 ∨ m < u.length) (by omega), if_neg, hu]
      rintro (h2 | h2)
      · rw [h2] at hm; exact h0 hm
      · rw [ha] at h2; exact Bool.false_ne_true h2.symm
theorem fold_expo_le (u : Bs) (a : Nat) (ha : a ≤ 1000000000) : u.foldl expo a ≤ 1000000000 := by
  induction u generalizing a with
  | nil => exact ha
  | cons c u ih => exact ih _ (Nat.min_le_right _ _)
theorem expDigits_bound (u : Bs) (n : Nat) (h : expDigits u = some n) : n ≤ 1000000000 := by
  unfold expDigits at h
  split at h
  · cases h
  · cases h; exact fold_expo_le u 0 (by omega)
theorem readExp_bound (l : Bs) (e : Int) (h : readExp l = some e) : -1000000000 ≤ e ∧ e ≤ 1000000000 := by
  by_cases hl : l = []
  · subst hl; cases h; exact ⟨by decide, by decide⟩
  have h0 : l.drop 0 = l := rfl
  by_cases he : l[0]? = some 101 ∨ l[0]? = some 69
  · have := readExp_e l 0 he
    rw [h0, h] at this
    cases hd : expDigits (l.drop (expSign l (0 + 1))) with
    | none => rw [hd] at this; cases this
    | some n =>
      rw [hd] at this
      have hb := expDigits_bound _ n hd
      simp at this
      split at this <;> omega
  · have := readExp_none l 0 he
    rw [h0, h] at this
    split at this
    · cases this
    · cases this; exact ⟨by decide, by decide⟩
end Go.Proofs.YtcpfooceadgccaaDoor.Dig
