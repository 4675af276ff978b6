/- Laws of the forms of a whole number, in plain Lean. -/
import Derived.Test.YtcpfooceadgccaaDoorDigLW
set_option linter.unusedVariables false
set_option linter.unusedSimpArgs false
namespace Go.Proofs.YtcpfooceadgccaaDoor.Dig
open Go

theorem fold_expo_val (u : Bs) (hu : u.all dig = true) : u.foldl expo 0 = min (val u) 1000000000 := by
  induction u using snocInd with
  | h0 => rfl
  | h1 l b ih =>
    rw [all_dig_snoc, Bool.and_eq_true] at hu
    rw [List.foldl_append, ih hu.1, val_snoc]
    show min (10 * min (val l) 1000000000 + (b.toNat - 48)) 1000000000 = _
    omega
theorem expDigits_all (u : Bs) (h0 : u ≠ []) (hu : u.all dig = true) : expDigits u = some (min (val u) 1000000000) := by
  unfold expDigits
  rw [if_neg (by rintro (h | h); exact h0 h; rw [hu] at h; cases h), fold_expo_val u hu]
theorem run_head (A X : Bs) (hA : A.all dig = true) (hX : ∀ b, X.head? = some b → dig b = false) : run (A ++ X) = A.length := run_app A X hA hX

theorem rb_plain (s : Bool) (A X : Bs) (h0 : A ≠ []) (hA : A.all dig = true) (hh : 1 < A.length → A.head? ≠ some 48) (hX : ∀ b, X.head? = some b → dig b = false ∧ b ≠ 46) :
    readBody s (A ++ X) = (readExp X).map fun e => norm ⟨s, A, 0 + e⟩ := by
  have hr := run_head A X hA (fun b hb => (hX b hb).1)
  have hl : 0 < A.length := List.length_pos_iff.2 h0
  have h1 : ¬ (A.length = 0 ∨ (1 < A.length ∧ (A ++ X)[0]? = some 48)) := by
    rintro (h | ⟨h, h'⟩)
    · omega
    · rw [List.getElem?_append_left hl, ← List.head?_eq_getElem?] at h'
      exact hh h h'
  have h2 : ¬ (A ++ X)[0 + A.length]? = some 46 := by
    rw [Nat.zero_add, List.getElem?_append_right (Nat.le_refl _), Nat.sub_self, ← List.head?_eq_getElem?]
    intro h
    exact (hX _ h).2 rfl
  have := readBody_plain s (A ++ X) 0 A.length hr.symm h1 h2
  simpa using this

theorem rb_point (s : Bool) (A B X : Bs) (h0 : A ≠ []) (hA : A.all dig = true) (hh : 1 < A.length → A.head? ≠ some 48) (hB0 : B ≠ []) (hB : B.all dig = true) (hX : ∀ b, X.head? = some b → dig b = false) :
    readBody s (A ++ 46 :: (B ++ X)) = (readExp X).map fun e => norm ⟨s, A ++ B, -(B.length : Int) + e⟩ := by
  have hr := run_head A (46 :: (B ++ X)) hA (fun b hb => by simp at hb; rw [← hb]; rfl)
  have hl : 0 < A.length := List.length_pos_iff.2 h0
  have hlB : 0 < B.length := List.length_pos_iff.2 hB0
  have h1 : ¬ (A.length = 0 ∨ (1 < A.length ∧ (A ++ 46 :: (B ++ X))[0]? = some 48)) := by
    rintro (h | ⟨h, h'⟩)
    · omega
    · rw [List.getElem?_append_left hl, ← List.head?_eq_getElem?] at h'
      exact hh h h'
  have h2 : (A ++ 46 :: (B ++ X))[0 + A.length]? = some 46 := by
    rw [Nat.zero_add, List.getElem?_append_right (Nat.le_refl _), Nat.sub_self]; rfl
  have hd : (A ++ 46 :: (B ++ X)).drop (0 + A.length + 1) = B ++ X := by
    rw [Nat.zero_add, ← List.drop_drop, List.drop_left]; rfl
  have hr2 := run_head B X hB hX
  have := readBody_point s (A ++ 46 :: (B ++ X)) 0 A.length B.length hr.symm h1 h2 (by rw [hd, hr2]) (by omega)
  rw [hd] at this
  rw [show (A ++ 46 :: (B ++ X)).drop (0 + A.length + 1 + B.length) = X by rw [← List.drop_drop, hd, List.drop_left]] at this
  simpa using this

theorem readExp_101 (t : Bs) (h45 : t.head? ≠ some 45) (h43 : t.head? ≠ some 43) : readExp (101 :: t) = (expDigits t).map (fun n => (n : Int)) := by
  have e0 : readExp (101 :: t) = if t.head? = some 45 then (expDigits t.tail).map (fun n => -(n : Int)) else if t.head? = some 43 then (expDigits t.tail).map (fun n => (n : Int)) else (expDigits t).map (fun n => (n : Int)) := by
    conv => lhs; unfold readExp
    exact if_pos rfl
  rw [e0, if_neg h45, if_neg h43]

def ys (s : Bool) (m : Nat) : Dec := norm ⟨s, digs m, 0⟩

theorem digs_lead (m : Nat) : 1 < (digs m).length → (digs m).head? ≠ some 48 := by
  intro h
  rcases Nat.eq_zero_or_pos m with h0 | h0
  · subst h0; rw [digs_zero] at h; simp at h
  · exact digs_head m h0
theorem rep_all (k : Nat) : (List.replicate k (48 : UInt8)).all dig = true := by
  rw [List.all_eq_true]; intro b hb; rw [List.mem_replicate] at hb; rw [hb.2]; rfl
theorem digs_rep_lead (m k : Nat) (h0 : 0 < m) : 1 < (digs m ++ List.replicate k 48).length → (digs m ++ List.replicate k (48 : UInt8)).head? ≠ some 48 := by
  intro _
  have := digs_head m h0
  cases hd : digs m with
  | nil => exact absurd hd (digs_ne m)
  | cons c t => rw [hd] at this; simpa using this
theorem val_rep (k : Nat) : val (List.replicate k (48 : UInt8)) = 0 := by
  have := val_front k []
  rw [List.append_nil] at this
  rw [this]; rfl

/-- a sign ahead of a body -/
theorem read_sign (m : Int) (b : Bs) : read (if m < 0 then 45 :: (digs m.natAbs ++ b) else digs m.natAbs ++ b) = readBody (decide (m < 0)) (digs m.natAbs ++ b) := by
  by_cases h : m < 0
  · rw [if_pos h, decide_eq_true h]; rfl
  · rw [if_neg h, decide_eq_false h]
    unfold read
    rw [if_neg]
    intro hh
    have : (digs m.natAbs).head? = some 45 := by
      cases hd : digs m.natAbs with
      | nil => exact absurd hd (digs_ne _)
      | cons c t => rw [hd] at hh; simpa using hh
    exact absurd (digs_pos_head _ _ this) (by decide)
theorem print_app (m : Int) (b : Bs) : print m ++ b = if m < 0 then 45 :: (digs m.natAbs ++ b) else digs m.natAbs ++ b := by
  unfold print
  split <;> simp
theorem read_app (m : Int) (b : Bs) : read (print m ++ b) = readBody (decide (m < 0)) (digs m.natAbs ++ b) := by rw [print_app, read_sign]

theorem form0 (m : Int) (z : Nat) : read (((print m ++ [46]) ++ List.replicate z 48) ++ [48]) = some (ys (decide (m < 0)) m.natAbs) := by
  have e : ((print m ++ [46]) ++ List.replicate z 48) ++ [48] = print m ++ (46 :: (List.replicate (z + 1) 48 ++ [])) := by
    rw [List.replicate_succ']; simp
  rw [e, read_app, rb_point _ _ _ _ (digs_ne _) (digs_all _) (digs_lead _) (by simp) (rep_all _) (by simp)]
  have hx : readExp [] = some 0 := rfl
  rw [hx]
  simp only [Option.map_some]
  rw [norm_back]
  simp [ys]
  congr 2
  omega

theorem form1 (m : Int) (z : Nat) (hm : m ≠ 0) (hz : z ≤ 1000000000) : read (((print m ++ List.replicate z 48) ++ [69, 45]) ++ print z) = some (ys (decide (m < 0)) m.natAbs) := by
  have e : ((print m ++ List.replicate z 48) ++ [69, 45]) ++ print (z : Int) = print m ++ (List.replicate z 48 ++ (69 :: 45 :: digs z)) := by
    have : print (z : Int) = digs z := by unfold print; rw [if_neg (by omega)]; simp
    rw [this]; simp
  rw [e, read_app, ← List.append_assoc, rb_plain _ _ _ (by simp [digs_ne]) (by rw [List.all_append, digs_all, rep_all]; rfl) (digs_rep_lead _ _ (by omega)) (by intro b hb; simp at hb; rw [← hb]; exact ⟨rfl, by decide⟩)]
  have hx : readExp (69 :: 45 :: digs z) = some (-(z : Int)) := by
    show (expDigits (digs z)).map (fun n => -(n : Int)) = _
    rw [expDigits_all _ (digs_ne _) (digs_all _), val_digs, Nat.min_eq_left hz]; rfl
  rw [hx]
  simp only [Option.map_some]
  rw [norm_back]
  simp [ys]
  congr 2
  omega

theorem form1z (z : Nat) : read ((print 0 ++ [101, 48]) ++ List.replicate z 48) = some (ys false 0) := by
  have e : (print 0 ++ [101, 48]) ++ List.replicate z 48 = print 0 ++ (101 :: List.replicate (z + 1) 48) := by
    rw [List.replicate_succ]; simp
  rw [e, read_app]
  rw [rb_plain _ _ _ (digs_ne _) (digs_all _) (digs_lead _) (by intro b hb; simp at hb; rw [← hb]; exact ⟨rfl, by decide⟩)]
  have hx : readExp (101 :: List.replicate (z + 1) 48) = some 0 := by
    have : readExp (101 :: List.replicate (z + 1) 48) = (expDigits (List.replicate (z + 1) 48)).map (fun n => (n : Int)) := by
      unfold readExp
      rw [List.replicate_succ]; rfl
    rw [this, expDigits_all _ (by simp) (rep_all _), val_rep]; rfl
  rw [hx]
  rfl

theorem form2 (m : Int) (z : Nat) (hz : 0 < z) : read (((print m ++ [46]) ++ List.replicate z 48) ++ [101, 43, 48]) = some (ys (decide (m < 0)) m.natAbs) := by
  have e : ((print m ++ [46]) ++ List.replicate z 48) ++ [101, 43, 48] = print m ++ (46 :: (List.replicate z 48 ++ [101, 43, 48])) := by simp
  rw [e, read_app, rb_point _ _ _ _ (digs_ne _) (digs_all _) (digs_lead _) (by simp; omega) (rep_all _) (by intro b hb; simp at hb; rw [← hb]; rfl)]
  have hx : readExp [101, 43, 48] = some 0 := rfl
  rw [hx]
  simp only [Option.map_some]
  rw [norm_back]
  simp [ys]
  congr 2
  omega

theorem form_plain (m : Int) : read (print m) = some (ys (decide (m < 0)) m.natAbs) := read_print m

theorem form3 (m z : Nat) (hm : 0 < m) (hz : 0 < z) (hb : z + (digs m).length ≤ 1000) : read (((([48, 46] ++ (List.replicate z 48).drop 1) ++ digs m) ++ [101]) ++ print (((z : Int) - 1) + (digs m).length)) = some (ys false m) := by
  obtain ⟨k, rfl⟩ : ∃ k, z = k + 1 := ⟨z - 1, by omega⟩
  have hp : print ((((k + 1 : Nat) : Int) - 1) + (digs m).length) = digs (k + (digs m).length) := by
    rw [show (((k + 1 : Nat) : Int) - 1) + ((digs m).length : Int) = ((k + (digs m).length : Nat) : Int) by omega]
    unfold print; rw [if_neg (by omega), Int.natAbs_natCast]
  rw [hp]
  have e : ((([48, 46] ++ (List.replicate (k + 1) 48).drop 1) ++ digs m) ++ [101]) ++ digs (k + (digs m).length) = [48] ++ 46 :: ((List.replicate k 48 ++ digs m) ++ (101 :: digs (k + (digs m).length))) := by
    rw [List.replicate_succ]; simp
  rw [e]
  have hr : read ([48] ++ 46 :: ((List.replicate k 48 ++ digs m) ++ (101 :: digs (k + (digs m).length)))) = readBody false ([48] ++ 46 :: ((List.replicate k 48 ++ digs m) ++ (101 :: digs (k + (digs m).length)))) := rfl
  rw [hr, rb_point _ _ _ _ (by simp) rfl (by simp) (by simp [digs_ne]) (by rw [List.all_append, digs_all, rep_all]; rfl) (by intro b hb; simp at hb; rw [← hb]; rfl)]
  have hx : readExp (101 :: digs (k + (digs m).length)) = some ((k + (digs m).length : Nat) : Int) := by
    have h1 : (digs (k + (digs m).length)).head? ≠ some 45 := fun h => absurd (digs_pos_head _ _ h) (by decide)
    have h2 : (digs (k + (digs m).length)).head? ≠ some 43 := fun h => absurd (digs_pos_head _ _ h) (by decide)
    rw [readExp_101 _ h1 h2, expDigits_all _ (digs_ne _) (digs_all _), val_digs, Nat.min_eq_left (by omega)]; rfl
  rw [hx]
  simp only [Option.map_some]
  have hl : -((List.replicate k (48 : UInt8) ++ digs m).length : Int) + ((k + (digs m).length : Nat) : Int) = 0 := by rw [List.length_append, List.length_replicate]; omega
  rw [hl]
  have := norm_front (k + 1) false (digs m) 0
  rw [List.replicate_succ] at this
  simpa [ys] using this

theorem ys_int (s : Bool) (m : Nat) (h : m ≤ 9007199254740991) : int (ys s m) = (if s = true then -(m : Int) else (m : Int), 0) := by
  unfold ys
  rw [int_print, if_neg (by omega)]
theorem ys_whole (s : Bool) (m : Nat) : whole (ys s m) = true := by
  unfold whole ys
  rw [norm_norm]
  unfold norm
  split
  · rfl
  · have : (core (digs m)).length ≤ (cutL (digs m)).length := cutR_le _
    simp
    omega
theorem ys_bounds (s : Bool) (m : Nat) (h : m < 10 ^ 20) : (ys s m).d.length ≤ 20 ∧ (ys s m).e ≤ 1000000000000 ∧ -1000000000000 ≤ (ys s m).e ∧ (ys s m).d.all dig = true := by
  have hl := digs_length_le 19 m h
  have h3 := cutL_le (digs m)
  have h4 : (core (digs m)).length ≤ (cutL (digs m)).length := cutR_le _
  refine ⟨?_, ?_, ?_, norm_all _ (digs_all m)⟩
  · unfold ys; rw [norm_d]; exact Nat.le_trans (core_le _) hl
  · unfold ys norm
    split
    · decide
    · dsimp only; omega
  · unfold ys norm
    split
    · decide
    · dsimp only; omega
end Go.Proofs.YtcpfooceadgccaaDoor.Dig
