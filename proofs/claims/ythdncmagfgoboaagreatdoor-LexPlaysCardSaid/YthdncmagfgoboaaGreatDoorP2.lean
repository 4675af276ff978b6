/- One of the texts that lead to the theorem lexPlays.proved: the conditions stand in each theorem. -/
import Derived.Lib.SlTrimSet
import Derived.Lib.Strings
import Derived.Lib.Bytealg
set_option linter.unnecessarySimpa false
set_option linter.unusedSimpArgs false
set_option linter.unusedVariables false
section
section
namespace Go.Proofs.YthdncmagfgoboaaGreatDoor.Dig
open Go
abbrev Bs := List UInt8
def dig (b : UInt8) : Bool := decide (48 ≤ b.toNat) && decide (b.toNat ≤ 57)
structure Dec where
 neg : Bool
 d : Bs
 e : Int
deriving DecidableEq
def zero : Dec := ⟨false, [], 0⟩
def cutL (l : Bs) : Bs := l.dropWhile (· == 48)
def cutR (l : Bs) : Bs := (l.reverse.dropWhile (· == 48)).reverse
def core (l : Bs) : Bs := cutR (cutL l)
def norm (x : Dec) : Dec :=
 if core x.d = [] then zero else ⟨x.neg, core x.d, x.e + (((cutL x.d).length : Int) - ((core x.d).length : Int))⟩
def run (l : Bs) : Nat := (l.takeWhile dig).length
def expo (n : Nat) (b : UInt8) : Nat := min (10 * n + (b.toNat - 48)) 1000000000
def expDigits (u : Bs) : Option Nat := if u = [] ∨ u.all dig = false then none else some (u.foldl expo 0)
def readExp : Bs → Option Int
 | [] => some 0
 | c :: t =>
  if (c == 101 || c == 69) = true then
   (if t.head? = some 45 then (expDigits t.tail).map (fun n => -(n : Int))
    else if t.head? = some 43 then (expDigits t.tail).map (fun n => (n : Int))
    else (expDigits t).map (fun n => (n : Int)))
  else none
def readBody (neg : Bool) (t : Bs) : Option Dec :=
 if run t = 0 ∨ (1 < run t ∧ t.head? = some 48) then none else
  if (t.drop (run t)).head? = some 46 then
   (if run (t.drop (run t + 1)) = 0 then none else
    (readExp (t.drop (run t + 1 + run (t.drop (run t + 1))))).map fun e =>
     norm ⟨neg, t.take (run t) ++ (t.drop (run t + 1)).take (run (t.drop (run t + 1))), -(run (t.drop (run t + 1)) : Int) + e⟩)
  else (readExp (t.drop (run t))).map fun e => norm ⟨neg, t.take (run t), e⟩
def read (s : Bs) : Option Dec := if s.head? = some 45 then readBody true s.tail else readBody false s
def val (l : Bs) : Nat := l.foldl (fun n b => 10 * n + (b.toNat - 48)) 0
def size (a b : Dec) : Int :=
 if (a.d.length : Int) + a.e < b.d.length + b.e then -1 else
 if (b.d.length : Int) + b.e < a.d.length + a.e then 1 else Lib.compareBytes a.d b.d
def whole (x : Dec) : Bool := decide (0 ≤ (norm x).e)
def intN (y : Dec) : Int × Int :=
 if y.e < 0 then (0, 7) else
 if 16 < (y.d.length : Int) + y.e then (0, 8) else
 if 9007199254740991 < val y.d * 10 ^ y.e.toNat then (0, 8) else
 (if y.neg = true then -((val y.d * 10 ^ y.e.toNat : Nat) : Int) else ((val y.d * 10 ^ y.e.toNat : Nat) : Int), 0)
def int (x : Dec) : Int × Int := intN (norm x)
def fig (k : Nat) : UInt8 := UInt8.ofNat (48 + k)
def digs (n : Nat) : Bs := if n < 10 then [fig n] else digs (n / 10) ++ [fig (n % 10)]
def print (n : Int) : Bs := if n < 0 then 45 :: digs n.natAbs else digs n.natAbs
theorem dropWhile_len (p : UInt8 → Bool) (l : Bs) : (l.dropWhile p).length = l.length - (l.takeWhile p).length := by
 have := congrArg List.length (List.takeWhile_append_dropWhile (p := p) (l := l))
 rw [List.length_append] at this
 omega
theorem takeWhile_le (p : UInt8 → Bool) (l : Bs) : (l.takeWhile p).length ≤ l.length := by
 have := congrArg List.length (List.takeWhile_append_dropWhile (p := p) (l := l))
 rw [List.length_append] at this
 omega
theorem run_le (l : Bs) : run l ≤ l.length := takeWhile_le _ _
theorem cutset (b : UInt8) : ([48, 49, 50, 51, 52, 53, 54, 55, 56, 57] : Bs).contains b = dig b := by
 have key : ∀ c : UInt8, (b == c) = decide (b.toNat = c.toNat) := fun c => by
  rw [Bool.eq_iff_iff, beq_iff_eq, decide_eq_true_eq]
  exact ⟨fun e => e ▸ rfl, fun e => UInt8.toNat_inj.1 e⟩
 simp only [List.contains, List.elem, key, dig]
 have := b.toNat_lt
 rw [Bool.eq_iff_iff]
 simp only [Bool.and_eq_true, decide_eq_true_eq]
 constructor
 · intro hh
   repeat' split at hh
   all_goals first | (simp at *; omega) | (simp at hh)
 · intro hh
   repeat' split
   all_goals first | rfl | (simp at *; omega)
theorem trimLeft_digits (l : Bs) : Lib.trimLeftS l [48, 49, 50, 51, 52, 53, 54, 55, 56, 57] = l.dropWhile dig := by
 unfold Lib.trimLeftS
 congr 1
 funext b
 exact cutset b
end Go.Proofs.YthdncmagfgoboaaGreatDoor.Dig
end
section
namespace Go.Proofs.YthdncmagfgoboaaGreatDoor.Dig
open Go
theorem nR {p : Bs → Prop} (h0 : p []) (h1 : ∀ l b, p l → p (l ++ [b])) (l : Bs) : p l := by
 have key : ∀ m : Bs, p m.reverse := fun m => by
  induction m with
  | nil => exact h0
  | cons b m ih => rw [List.reverse_cons]; exact h1 _ _ ih
 have := key l.reverse
 rwa [List.reverse_reverse] at this
theorem cutL_front (k : Nat) (l : Bs) : cutL (List.replicate k 48 ++ l) = cutL l := by
 induction k with
 | zero => rfl
 | succ k ih => rw [List.replicate_succ, List.cons_append]; unfold cutL at *; rw [List.dropWhile_cons]; simpa using ih
theorem jP : ∀ (l : Bs), (∀ b ∈ l, b = 48) → l = List.replicate l.length 48
 | [], _ => rfl
 | b :: l, hl => by
  rw [List.length_cons, List.replicate_succ, hl b List.mem_cons_self, ← jP l (fun c hc => hl c (List.mem_cons_of_mem _ hc))]
theorem gZ (l : Bs) : l.takeWhile (· == (48 : UInt8)) = List.replicate (l.takeWhile (· == (48 : UInt8))).length 48 := by
 refine jP _ (fun b hb => ?_)
 induction l with
 | nil => simp at hb
 | cons c l ih =>
  rw [List.takeWhile_cons] at hb
  by_cases hc : c = 48
  · subst hc
    simp at hb
    rcases hb with hb | hb
    · exact hb
    · exact ih (by simpa using hb)
  · have : (c == (48 : UInt8)) = false := by simpa using hc
    rw [this] at hb
    simp at hb
theorem eL (l : Bs) : ∃ k, l = List.replicate k 48 ++ cutL l :=
 ⟨_, by
  conv => lhs; rw [← List.takeWhile_append_dropWhile (p := (· == (48 : UInt8))) (l := l)]
  rw [gZ]
  rfl⟩
theorem lS (l : Bs) : ∃ k, l = cutR l ++ List.replicate k 48 := by
 obtain ⟨k, hk⟩ := eL l.reverse
 refine ⟨k, ?_⟩
 have := congrArg List.reverse hk
 rw [List.reverse_reverse, List.reverse_append, List.reverse_replicate] at this
 exact this
theorem nE (k : Nat) (l : Bs) : cutR (l ++ List.replicate k 48) = cutR l := by
 have := cutL_front k l.reverse
 unfold cutR
 unfold cutL at this
 rw [List.reverse_append, List.reverse_replicate, this]
theorem cutL_head (l : Bs) : (cutL l).head? ≠ some 48 := by
 unfold cutL
 induction l with
 | nil => simp
 | cons c l ih =>
  rw [List.dropWhile_cons]
  split
  · exact ih
  · rename_i hc
    simpa using hc
theorem cutL_of_head (l : Bs) (hl : l.head? ≠ some 48) : cutL l = l := by
 cases l with
 | nil => rfl
 | cons c l =>
  unfold cutL
  have : (c == (48 : UInt8)) = false := by simpa using hl
  rw [List.dropWhile_cons, this]
  rfl
theorem uU (l : Bs) : cutL (cutL l) = cutL l := cutL_of_head _ (cutL_head l)
theorem uS (l : Bs) : cutR (cutR l) = cutR l := by
 unfold cutR
 rw [List.reverse_reverse]
 exact congrArg List.reverse (uU l.reverse)
theorem cutR_of_last (l : Bs) (b : UInt8) (hb : b ≠ 48) : cutR (l ++ [b]) = l ++ [b] := by
 unfold cutR
 have := cutL_of_head (l ++ [b]).reverse (by simpa using hb)
 unfold cutL at this
 rw [this, List.reverse_reverse]
theorem cutR_snoc (l : Bs) : cutR (l ++ [48]) = cutR l := nE 1 l
theorem cutR_le (l : Bs) : (cutR l).length ≤ l.length := by
 obtain ⟨k, hk⟩ := lS l
 have := congrArg List.length hk
 rw [List.length_append] at this
 omega
theorem cutL_le (l : Bs) : (cutL l).length ≤ l.length := by
 obtain ⟨k, hk⟩ := eL l
 have := congrArg List.length hk
 rw [List.length_append] at this
 omega
theorem nI (l : Bs) : (core l).head? ≠ some 48 := by
 unfold core
 obtain ⟨k, hk⟩ := lS (cutL l)
 cases hc : cutR (cutL l) with
 | nil => simp
 | cons c m =>
  rw [hc] at hk
  have := cutL_head l
  rw [hk] at this
  simpa using this
theorem uV (l : Bs) : core (core l) = core l := by
 have e : core (core l) = cutR (cutL (core l)) := rfl
 rw [e, cutL_of_head _ (nI l)]
 exact uS _
theorem sL (k : Nat) (l : Bs) : core (List.replicate k 48 ++ l) = core l := by unfold core; rw [cutL_front]
theorem nF (k : Nat) (l : Bs) (hl : cutL l ≠ []) : cutL (l ++ List.replicate k 48) = cutL l ++ List.replicate k 48 := by
 obtain ⟨n, hn⟩ := eL l
 conv => lhs; rw [hn]
 rw [List.append_assoc, cutL_front]
 refine cutL_of_head _ ?_
 have hh := cutL_head l
 cases hc : cutL l with
 | nil => exact absurd hc hl
 | cons c m => rw [hc] at hh; simpa using hh
theorem mG (k : Nat) (l : Bs) (hl : cutL l = []) : cutL (l ++ List.replicate k 48) = [] := by
 obtain ⟨n, hn⟩ := eL l
 rw [hl, List.append_nil] at hn
 rw [hn, cutL_front]
 have := cutL_front k []
 rw [List.append_nil] at this
 rw [this]
 rfl
theorem uW (k : Nat) (l : Bs) : core (l ++ List.replicate k 48) = core l := by
 unfold core
 by_cases hl : cutL l = []
 · rw [mG k l hl, hl]
 · rw [nF k l hl, nE]
theorem oW (l : Bs) (hl : core l ≠ []) : cutL l ≠ [] := fun e => hl (by unfold core; rw [e]; rfl)
theorem norm_front (k : Nat) (s : Bool) (d : Bs) (e : Int) : norm ⟨s, List.replicate k 48 ++ d, e⟩ = norm ⟨s, d, e⟩ := by
 unfold norm
 simp only [sL, cutL_front]
theorem norm_back (k : Nat) (s : Bool) (d : Bs) (e : Int) : norm ⟨s, d ++ List.replicate k 48, e⟩ = norm ⟨s, d, e + k⟩ := by
 unfold norm
 simp only [uW]
 by_cases hc : core d = []
 · rw [if_pos hc, if_pos hc]
 · rw [if_neg hc, if_neg hc, nF k d (oW d hc), List.length_append, List.length_replicate]
   congr 1
   omega
theorem norm_d (x : Dec) : (norm x).d = core x.d := by
 unfold norm
 split
 · rename_i hc
   exact hc.symm
 · rfl
theorem norm_norm (x : Dec) : norm (norm x) = norm x := by
 by_cases hc : core x.d = []
 · have e : norm x = zero := by unfold norm; rw [if_pos hc]
   rw [e]
   rfl
 · have e : norm x = ⟨x.neg, core x.d, x.e + (((cutL x.d).length : Int) - ((core x.d).length : Int))⟩ := by unfold norm; rw [if_neg hc]
   rw [e]
   unfold norm
   simp only [uV]
   rw [if_neg hc, cutL_of_head _ (nI _)]
   congr 1
   omega
theorem val_snoc (l : Bs) (b : UInt8) : val (l ++ [b]) = 10 * val l + (b.toNat - 48) := by
 unfold val
 rw [List.foldl_append]
 rfl
theorem val_back (l : Bs) : ∀ k, val (l ++ List.replicate k 48) = val l * 10 ^ k
 | 0 => by simp
 | k + 1 => by
  rw [List.replicate_succ', ← List.append_assoc, val_snoc, val_back l k, Nat.pow_succ]
  have : (48 : UInt8).toNat - 48 = 0 := rfl
  rw [this, Nat.add_zero, Nat.mul_left_comm, Nat.mul_comm 10]
theorem tC (k : Nat) (l : Bs) : val (List.replicate k 48 ++ l) = val l := by
 have e : ∀ k, (List.replicate k (48 : UInt8)).foldl (fun n b => 10 * n + (b.toNat - 48)) 0 = 0 := fun k => by
  induction k with
  | zero => rfl
  | succ k ih => rw [List.replicate_succ, List.foldl_cons]; exact ih
 unfold val
 rw [List.foldl_append, e]
theorem val_cutL (l : Bs) : val (cutL l) = val l := by
 obtain ⟨k, hk⟩ := eL l
 conv => rhs; rw [hk]
 rw [tC]
theorem fN (l : Bs) (b : UInt8) : (l ++ [b]).all dig = (l.all dig && dig b) := by simp
theorem dig_le (b : UInt8) (hb : dig b = true) : 48 ≤ b.toNat ∧ b.toNat ≤ 57 := by
 unfold dig at hb
 simpa using hb
theorem take_all (l : Bs) (k : Nat) (hl : l.all dig = true) : (l.take k).all dig = true := by
 rw [List.all_eq_true] at hl ⊢
 exact fun b hb => hl b (List.mem_of_mem_take hb)
theorem all_mem (l : Bs) (k : Nat) (c : UInt8) (hl : l.all dig = true) (hc : l[k]? = some c) : dig c = true := by
 rw [List.all_eq_true] at hl
 exact hl c (List.mem_of_getElem? hc)
theorem cutL_sub (l : Bs) : ∀ b, b ∈ cutL l → b ∈ l := fun b hb => (List.dropWhile_sublist _).subset hb
theorem xP (l : Bs) : ∀ b, b ∈ cutR l → b ∈ l := fun b hb => by
 unfold cutR at hb
 have := (List.dropWhile_sublist (· == 48)).subset (List.mem_reverse.1 hb)
 simpa using this
theorem core_all (l : Bs) (hl : l.all dig = true) : (core l).all dig = true := by
 rw [List.all_eq_true] at hl ⊢
 exact fun b hb => hl b (cutL_sub l b (xP _ b hb))
theorem core_le (l : Bs) : (core l).length ≤ l.length := Nat.le_trans (cutR_le _) (cutL_le l)
theorem norm_e_bound (x : Dec) (hl : x.d.length ≤ 1000000000000) (he : x.e ≤ 1000000000000) (he' : -1000000000000 ≤ x.e) : (norm x).e ≤ 2000000000000 ∧ -2000000000000 ≤ (norm x).e := by
 have h1 := cutL_le x.d
 have h2 : (core x.d).length ≤ (cutL x.d).length := cutR_le _
 unfold norm
 split
 · exact ⟨by decide, by decide⟩
 · constructor
   · show x.e + _ ≤ _; omega
   · show _ ≤ x.e + _; omega
theorem val_lt (l : Bs) : l.all dig = true → val l < 10 ^ l.length := by
 induction l using nR with
 | h0 => intro _; decide
 | h1 l b ih =>
  intro hl
  rw [fN, Bool.and_eq_true] at hl
  have := ih hl.1
  have := dig_le b hl.2
  rw [val_snoc, List.length_append, List.length_singleton, Nat.pow_succ]
  omega
theorem val_ge (l : Bs) (hl : l ≠ []) (hd : l.all dig = true) (hh : l.head? ≠ some 48) : 10 ^ (l.length - 1) ≤ val l := by
 induction l using nR with
 | h0 => exact absurd rfl hl
 | h1 l b ih =>
  rw [fN, Bool.and_eq_true] at hd
  have hb := dig_le b hd.2
  rw [val_snoc, List.length_append, List.length_singleton]
  by_cases hn : l = []
  · subst hn
    have : b ≠ 48 := by simpa using hh
    have : b.toNat ≠ 48 := fun e => this (UInt8.toNat_inj.1 (by rw [e]; rfl))
    simp [val]
    omega
  · have hh' : l.head? ≠ some 48 := by
     cases l with
     | nil => exact absurd rfl hn
     | cons c m => simpa using hh
    have := ih hn hd.1 hh'
    have hlen : 0 < l.length := List.length_pos_iff.2 hn
    have e : l.length + 1 - 1 = (l.length - 1) + 1 := by omega
    rw [e, Nat.pow_succ]
    omega
theorem run_lt (l : Bs) : ∀ (n : Nat), n < run l → ∃ b, l[n]? = some b ∧ 48 ≤ b.toNat ∧ b.toNat ≤ 57 := by
 induction l with
 | nil => intro n hn; simp [run] at hn
 | cons c l ih =>
  intro n hn
  unfold run at hn
  rw [List.takeWhile_cons] at hn
  cases hc : dig c with
  | false => rw [hc] at hn; simp at hn
  | true =>
   rw [hc] at hn
   cases n with
   | zero => exact ⟨c, rfl, dig_le c hc⟩
   | succ n => exact ih n (by unfold run; simpa using hn)
theorem run_end (l : Bs) : l[run l]? = none ∨ ∃ b, l[run l]? = some b ∧ (¬ 48 ≤ b.toNat ∨ (48 ≤ b.toNat ∧ ¬ b.toNat ≤ 57)) := by
 induction l with
 | nil => left; rfl
 | cons c l ih =>
  cases hc : dig c with
  | false =>
   right
   have e : run (c :: l) = 0 := by unfold run; rw [List.takeWhile_cons, hc]; rfl
   rw [e]
   refine ⟨c, rfl, ?_⟩
   unfold dig at hc
   simp at hc
   omega
  | true =>
   have e : run (c :: l) = run l + 1 := by unfold run; rw [List.takeWhile_cons, hc]; rfl
   rw [e]
   simpa using ih
theorem run_app (l m : Bs) (hl : l.all dig = true) (hm : ∀ b, m.head? = some b → dig b = false) : run (l ++ m) = l.length := by
 unfold run
 rw [List.takeWhile_append_of_pos (by simpa using hl)]
 cases m with
 | nil => simp
 | cons b m => rw [List.takeWhile_cons, hm b rfl]; simp
end Go.Proofs.YthdncmagfgoboaaGreatDoor.Dig
end
section
namespace Go.Proofs.YthdncmagfgoboaaGreatDoor.Dig
open Go
theorem head_drop (l : Bs) (i : Nat) : (l.drop i).head? = l[i]? := by rw [List.head?_eq_getElem?, List.getElem?_drop]; simp
theorem read_neg (l : Bs) (h : l[0]? = some 45) : read l = readBody true (l.drop 1) := by
 cases l with
 | nil => simp at h
 | cons c t => unfold read; rw [if_pos (by simpa using h)]; rfl
theorem read_pos (l : Bs) (h : ¬ l[0]? = some 45) : read l = readBody false (l.drop 0) := by
 unfold read
 rw [if_neg (by rw [List.head?_eq_getElem?]; exact h)]
 rfl
theorem readBody_bad (sg : Bool) (l : Bs) (i n : Nat) (hn : n = run (l.drop i)) (h : n = 0 ∨ (1 < n ∧ l[i]? = some 48)) : readBody sg (l.drop i) = none := by
 unfold readBody
 rw [if_pos (by rw [← hn, head_drop]; exact h)]
theorem readBody_plain (sg : Bool) (l : Bs) (i n : Nat) (hn : n = run (l.drop i)) (h : ¬ (n = 0 ∨ (1 < n ∧ l[i]? = some 48))) (hp : ¬ l[i + n]? = some 46) :
 readBody sg (l.drop i) = (readExp (l.drop (i + n))).map fun e => norm ⟨sg, (l.drop i).take n, 0 + e⟩ := by
 unfold readBody
 rw [if_neg (by rw [← hn, head_drop]; exact h), ← hn, List.drop_drop, if_neg (by rw [head_drop]; exact hp)]
 simp
theorem readBody_point_bad (sg : Bool) (l : Bs) (i n : Nat) (hn : n = run (l.drop i)) (h : ¬ (n = 0 ∨ (1 < n ∧ l[i]? = some 48))) (hp : l[i + n]? = some 46) (h2 : run (l.drop (i + n + 1)) = 0) :
 readBody sg (l.drop i) = none := by
 unfold readBody
 rw [if_neg (by rw [← hn, head_drop]; exact h), ← hn, List.drop_drop, if_pos (by rw [head_drop]; exact hp), List.drop_drop, if_pos (by rw [show i + (n + 1) = i + n + 1 by omega]; exact h2)]
theorem readBody_point (sg : Bool) (l : Bs) (i n m : Nat) (hn : n = run (l.drop i)) (h : ¬ (n = 0 ∨ (1 < n ∧ l[i]? = some 48))) (hp : l[i + n]? = some 46) (h2 : m = run (l.drop (i + n + 1))) (h3 : m ≠ 0) :
 readBody sg (l.drop i) = (readExp (l.drop (i + n + 1 + m))).map fun e => norm ⟨sg, (l.drop i).take n ++ (l.drop (i + n + 1)).take m, -(m : Int) + e⟩ := by
 unfold readBody
 rw [if_neg (by rw [← hn, head_drop]; exact h), ← hn, List.drop_drop, if_pos (by rw [head_drop]; exact hp), List.drop_drop, show i + (n + 1) = i + n + 1 by omega, ← h2, if_neg h3, List.drop_drop, show i + (n + 1 + m) = i + n + 1 + m by omega]
def expSign (l : Bs) (k : Nat) : Nat := if l[k]? = some 45 ∨ l[k]? = some 43 then k + 1 else k
theorem readExp_none (l : Bs) (j : Nat) (h : ¬ (l[j]? = some 101 ∨ l[j]? = some 69)) : readExp (l.drop j) = if j < l.length then none else some 0 := by
 cases hd : l.drop j with
 | nil => rw [if_neg (by have := List.drop_eq_nil_iff.1 hd; omega)]; rfl
 | cons c t =>
  have hc : l[j]? = some c := by have := head_drop l j; rw [hd] at this; exact this.symm
  rw [hc] at h
  have hj := (List.getElem?_eq_some_iff.1 hc).1
  rw [if_pos hj]
  unfold readExp
  exact if_neg (by simpa using h)
theorem readExp_e (l : Bs) (j : Nat) (h : l[j]? = some 101 ∨ l[j]? = some 69) :
 readExp (l.drop j) = (expDigits (l.drop (expSign l (j + 1)))).map fun n => if l[j + 1]? = some 45 then -(n : Int) else (n : Int) := by
 cases hd : l.drop j with
 | nil => have := head_drop l j; rw [hd] at this; rw [← this] at h; simp at h
 | cons c t =>
  have hc : l[j]? = some c := by have := head_drop l j; rw [hd] at this; exact this.symm
  rw [hc] at h
  have ht : t = l.drop (j + 1) := by rw [← List.drop_drop (i := 1) (j := j), hd]; rfl
  have hh : t.head? = l[j + 1]? := by rw [ht, head_drop]
  have e0 : readExp (c :: t) = if t.head? = some 45 then (expDigits t.tail).map (fun n => -(n : Int)) else if t.head? = some 43 then (expDigits t.tail).map (fun n => (n : Int)) else (expDigits t).map (fun n => (n : Int)) := by
   conv => lhs; unfold readExp
   exact if_pos (by simpa using h)
  rw [e0, hh]
  unfold expSign
  have htl : t.tail = l.drop (j + 1 + 1) := by rw [ht, List.tail_drop]
  by_cases h1 : l[j + 1]? = some 45
  · simp only [h1, if_true, true_or, htl]
  · by_cases h2 : l[j + 1]? = some 43
    · rw [if_neg h1, if_pos h2, if_pos (Or.inr h2), htl]
      simp only [if_neg h1]
    · rw [if_neg h1, if_neg h2, if_neg (by simp [h1, h2]), ht]
      simp only [if_neg h1]
theorem run_take (u : Bs) : (u.take (run u)).all dig = true := by
 unfold run
 induction u with
 | nil => rfl
 | cons c u ih =>
  rw [List.takeWhile_cons]
  cases hc : dig c with
  | false => rfl
  | true => simpa [hc] using ih
theorem expDigits_eq (u : Bs) (m : Nat) (hm : m = run u) : expDigits u = if m = 0 ∨ m < u.length then none else some ((u.take m).foldl expo 0) := by
 unfold expDigits
 by_cases h0 : m = 0
 · rw [if_pos (Or.inl h0), if_pos]
   cases u with
   | nil => exact Or.inl rfl
   | cons c u =>
    right
    have : dig c = false := by
     cases hc : dig c with
     | false => rfl
     | true => rw [hm] at h0; unfold run at h0; rw [List.takeWhile_cons, hc] at h0; simp at h0
    simp [this]
 · by_cases h1 : m < u.length
   · rw [if_pos (Or.inr h1), if_pos]
     right
     rw [List.all_eq_false]
     rcases run_end u with h2 | ⟨b, hb, h2⟩
     · rw [← hm] at h2; rw [List.getElem?_eq_none_iff] at h2; omega
     · exact ⟨b, List.mem_of_getElem? hb, by unfold dig; simp; omega⟩
   · have hu : u.take m = u := List.take_of_length_le (by omega)
     have ha : u.all dig = true := by have := run_take u; rw [← hm, hu] at this; exact this
     rw [if_neg (c := m = 0 ∨ m < u.length) (by omega), if_neg, hu]
     rintro (h2 | h2)
     · rw [h2] at hm; exact h0 hm
     · rw [ha] at h2; exact Bool.false_ne_true h2.symm
theorem oO (u : Bs) (a : Nat) (ha : a ≤ 1000000000) : u.foldl expo a ≤ 1000000000 := by
 induction u generalizing a with
 | nil => exact ha
 | cons c u ih => exact ih _ (Nat.min_le_right _ _)
theorem kB (u : Bs) (n : Nat) (h : expDigits u = some n) : n ≤ 1000000000 := by
 unfold expDigits at h
 split at h
 · cases h
 · cases h; exact oO u 0 (by omega)
theorem readExp_bound (l : Bs) (e : Int) (h : readExp l = some e) : -1000000000 ≤ e ∧ e ≤ 1000000000 := by
 by_cases hl : l = []
 · subst hl; cases h; exact ⟨by decide, by decide⟩
 have h0 : l.drop 0 = l := rfl
 by_cases he : l[0]? = some 101 ∨ l[0]? = some 69
 · have := readExp_e l 0 he
   rw [h0, h] at this
   cases hd : expDigits (l.drop (expSign l (0 + 1))) with
   | none => rw [hd] at this; cases this
   | some n =>
    rw [hd] at this
    have hb := kB _ n hd
    simp at this
    split at this <;> omega
 · have := readExp_none l 0 he
   rw [h0, h] at this
   split at this
   · cases this
   · cases this; exact ⟨by decide, by decide⟩
end Go.Proofs.YthdncmagfgoboaaGreatDoor.Dig
end
section
namespace Go.Proofs.YthdncmagfgoboaaGreatDoor.Dig
open Go
theorem norm_all (x : Dec) (h : x.d.all dig = true) : (norm x).d.all dig = true := by rw [norm_d]; exact core_all _ h
end Go.Proofs.YthdncmagfgoboaaGreatDoor.Dig
end
section
namespace Go.Proofs.YthdncmagfgoboaaGreatDoor.Dig
open Go
theorem mF (u : Bs) (hu : u.all dig = true) : u.foldl expo 0 = min (val u) 1000000000 := by
 induction u using nR with
 | h0 => rfl
 | h1 l b ih =>
  rw [fN, Bool.and_eq_true] at hu
  rw [List.foldl_append, ih hu.1, val_snoc]
  show min (10 * min (val l) 1000000000 + (b.toNat - 48)) 1000000000 = _
  omega
theorem expDigits_all (u : Bs) (h0 : u ≠ []) (hu : u.all dig = true) : expDigits u = some (min (val u) 1000000000) := by
 unfold expDigits
 rw [if_neg (by rintro (h | h); exact h0 h; rw [hu] at h; cases h), mF u hu]
def ys (s : Bool) (m : Nat) : Dec := norm ⟨s, digs m, 0⟩
end Go.Proofs.YthdncmagfgoboaaGreatDoor.Dig
end
end

section
namespace Go.Proofs.YthdncmagfgoboaaGreatDoor.Num
open Go
open Go.Proofs.YthdncmagfgoboaaGreatDoor.Dig (Bs)
abbrev far : Nat := 1000000000
abbrev maxW : Nat := 9007199254740991
structure St where
 at_ : Nat
 m : Nat
 zeros : Nat
 behind : Nat
 below : Bool
 e : Nat
deriving DecidableEq
def St.start : St := ⟨0, 0, 0, 0, false, 0⟩
structure St.Okz (n : St) : Prop where
 zeros : n.zeros ≤ 1000000
 behind : n.behind ≤ 1000000
 e : n.e ≤ far
structure St.Ok (n : St) : Prop where
 at_ : n.at_ ≤ 8
 m : n.m ≤ maxW
 zeros : n.zeros ≤ 1000000
 behind : n.behind ≤ 1000000
 e : n.e ≤ far
theorem St.Ok.z {n : St} (h : n.Ok) : n.Okz := ⟨h.zeros, h.behind, h.e⟩
structure St.OkL (n : St) (L : Nat) : Prop where
 at_ : n.at_ ≤ 8
 m : n.m ≤ maxW
 zeros : n.zeros ≤ L
 behind : n.behind ≤ L
 e : n.e ≤ far
theorem St.OkL.ok {n : St} {L : Nat} (h : n.OkL L) (hL : L ≤ 1000000) : n.Ok := ⟨h.at_, h.m, Nat.le_trans h.zeros hL, Nat.le_trans h.behind hL, h.e⟩
def next (at_ x : Nat) : Option Nat :=
 let figure := 48 ≤ x ∧ x ≤ 57
 if at_ = 0 then (if x = 45 then some 1 else if x = 48 then some 2 else if figure then some 3 else none) else
 if at_ = 1 then (if x = 48 then some 2 else if figure then some 3 else none) else
 if at_ = 2 then (if x = 46 then some 4 else if x = 101 ∨ x = 69 then some 6 else none) else
 if at_ = 3 then (if figure then some 3 else if x = 46 then some 4 else if x = 101 ∨ x = 69 then some 6 else none) else
 if at_ = 4 then (if figure then some 5 else none) else
 if at_ = 5 then (if x = 101 ∨ x = 69 then some 6 else if figure then some 5 else none) else
 if at_ = 6 then (if x = 45 ∨ x = 43 then some 7 else if figure then some 8 else none) else
 (if figure then some 8 else none)
def digit (v : Nat) (bh : Bool) (n : St) : Option St :=
 let b := if bh = true then n.behind + 1 else n.behind
 if v = 0 then some { n with behind := b, zeros := if 0 < n.m ∨ bh = true then n.zeros + 1 else n.zeros } else
 if n.m = 0 then some { n with behind := b, m := v, zeros := 0 } else
 if n.m * 10 ^ (n.zeros + 1) + v ≤ maxW then some { n with behind := b, m := n.m * 10 ^ (n.zeros + 1) + v, zeros := 0 } else none
def least (n : St) : Int := (n.behind : Int) - n.zeros
def mostN : Nat → Nat → Nat
 | 0, _ => 0
 | f + 1, m => if m ≤ 900719925474099 then 1 + mostN f (10 * m) else 0
def most (m : Nat) : Nat := mostN 16 m
def meets : Nat → Nat → Nat → Int → Int → Bool
 | 0, _, _, _, _ => false
 | f + 1, low, high, a, b => if (low : Int) ≤ b then (if a ≤ (high : Int) then true else meets f (10 * low) (10 * high + 9) a b) else false
def leads (e : Nat) (begun : Bool) (a b : Int) : Bool :=
 if b < max a 0 then false else
 if begun = false ∨ e = 0 then true else meets 12 e e (max a 0) b
def may (n : St) : Bool :=
 if n.m = 0 ∨ n.at_ < 7 then true else
 if n.below = true then leads n.e (n.at_ == 8) (-(least n + most n.m)) (-(least n)) else leads n.e (n.at_ == 8) (least n) (least n + most n.m)
def stands (n : St) : Bool := decide (least n ≤ if n.below = true then -(n.e : Int) else (n.e : Int))
def why (n : St) : Nat := if stands n = true then 8 else 7
def push (n : St) (x : Nat) : Except Nat St :=
 match next n.at_ x with
 | none => .error 2
 | some to =>
  let n1 := { n with at_ := to }
  if to = 2 ∨ to = 3 ∨ to = 5 then
   match digit (x - 48) (to == 5) n1 with
   | none => .error (why { n1 with behind := if to = 5 then n1.behind + 1 else n1.behind, zeros := 0 })
   | some n2 => if may n2 = true then .ok n2 else .error (why n2)
  else
   let n2 := if to = 7 then { n1 with below := x == 45 } else if to = 8 then { n1 with e := min (10 * n1.e + (x - 48)) far } else n1
   if may n2 = true then .ok n2 else .error (why n2)
theorem digit_okL {v : Nat} {bh : Bool} {n n' : St} {L : Nat} (h : n.OkL L) (hv : v ≤ 9) (hd : digit v bh n = some n') : n'.OkL (L + 1) := by
 obtain ⟨h1, h2, h3, h4, h5⟩ := h
 unfold digit at hd
 have hb : (if bh = true then n.behind + 1 else n.behind) ≤ L + 1 := by split <;> omega
 simp only at hd
 split at hd
 · injection hd with hd; subst hd
   exact ⟨h1, h2, by dsimp only; split <;> omega, hb, h5⟩
 · split at hd
   · injection hd with hd; subst hd
     exact ⟨h1, by unfold maxW; dsimp only; omega, Nat.zero_le _, hb, h5⟩
   · split at hd
     · injection hd with hd; subst hd
       rename_i hm
       exact ⟨h1, hm, Nat.zero_le _, hb, h5⟩
     · cases hd
def fin (n2 : St) : Except Nat St := if may n2 = true then .ok n2 else .error (why n2)
def setA (n : St) (x : Nat) : St := { n with at_ := x }
def setM (n : St) (x : Nat) : St := { n with m := x }
def setZ (n : St) (x : Nat) : St := { n with zeros := x }
def setB (n : St) (x : Nat) : St := { n with behind := x }
def setW (n : St) (x : Bool) : St := { n with below := x }
def setE (n : St) (x : Nat) : St := { n with e := x }
theorem setZ_self (n : St) (z : Nat) (h : n.zeros = z) : setZ n z = n := by subst h; rfl
theorem setM_m (n : St) (M : Nat) : (setM n M).m = M := rfl
theorem setM_zeros (n : St) (M : Nat) : (setM n M).zeros = n.zeros := rfl
def digB (n : St) (bh : Bool) : St := { n with behind := if bh = true then n.behind + 1 else n.behind }
section
variable {n n2 : St} {x p : Nat}
theorem push_digit_yes (hn : next n.at_ x = some p) (hp : p = 2 ∨ p = 3 ∨ p = 5) (hd : digit (x - 48) (p == 5) (setA n p) = some n2) : push n x = fin n2 := by
 unfold push
 rw [hn]
 simp only [if_pos hp]
 unfold setA at hd
 rw [hd]
 rfl
theorem push_digit_no (hn : next n.at_ x = some p) (hp : p = 2 ∨ p = 3 ∨ p = 5) (hd : digit (x - 48) (p == 5) (setA n p) = none) (M Z : Nat) : push n x = .error (why (setZ (setZ (setM (digB (setA n p) (p == 5)) M) Z) 0)) := by
 unfold push
 rw [hn]
 simp only [if_pos hp]
 unfold setA at hd
 rw [hd]
 rcases hp with rfl | rfl | rfl <;> rfl
theorem push_sign (hn : next n.at_ x = some 7) : push n x = fin (setW (setA n 7) (x == 45)) := by
 unfold push
 rw [hn]
 rfl
theorem push_power (hn : next n.at_ x = some 8) : push n x = fin (setE (setA n 8) (min (10 * n.e + (x - 48)) far)) := by
 unfold push
 rw [hn]
 rfl
theorem push_other (hn : next n.at_ x = some p) (hp : p = 0 ∨ p = 1 ∨ p = 4 ∨ p = 6) : push n x = fin (setA n p) := by
 unfold push
 rw [hn]
 rcases hp with rfl | rfl | rfl | rfl <;> rfl
end
theorem qF : ∀ f m, mostN f m ≤ f
 | 0, _ => Nat.le_refl _
 | f + 1, m => by
  unfold mostN
  split
  · have := qF f (10 * m); omega
  · omega
theorem most_le (m : Nat) : most m ≤ 16 := qF 16 m
theorem next_le (at_ x to : Nat) (h : next at_ x = some to) : to ≤ 8 := by
 unfold next at h
 simp only at h
 repeat' split at h
 all_goals first | (injection h with h; first | omega | (constructor <;> omega)) | (simp at h)
theorem next_fig (at_ x to : Nat) (h : next at_ x = some to) (ht : to = 2 ∨ to = 3 ∨ to = 5 ∨ to = 8) : 48 ≤ x ∧ x ≤ 57 := by
 unfold next at h
 simp only at h
 repeat' split at h
 all_goals first | assumption | (simp at h; done) | (simp at h; omega)
end Go.Proofs.YthdncmagfgoboaaGreatDoor.Num
end
