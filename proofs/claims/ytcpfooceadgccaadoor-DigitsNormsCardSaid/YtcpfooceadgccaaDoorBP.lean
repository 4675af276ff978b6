import Derived.Lib.SlTrimSet
import Derived.Lib.Strings
import Derived.Lib.Bytealg
section
/-
  Numbers as digits, in plain Lean: what both texts of the layer compute, over lists of bytes; no program in sight.
-/
set_option linter.unusedVariables false
set_option linter.unusedSimpArgs false
namespace Go.Proofs.YtcpfooceadgccaaDoor.Dig
open Go

abbrev Bs := List UInt8

/-- is it a digit? -/
def dig (b : UInt8) : Bool := decide (48 ≤ b.toNat) && decide (b.toNat ≤ 57)

structure Dec where
  neg : Bool
  d : Bs
  e : Int
deriving DecidableEq

def zero : Dec := ⟨false, [], 0⟩

def cutL (l : Bs) : Bs := l.dropWhile (· == 48)
def cutR (l : Bs) : Bs := (l.reverse.dropWhile (· == 48)).reverse
def core (l : Bs) : Bs := cutR (cutL l)

def norm (x : Dec) : Dec :=
  if core x.d = [] then zero else ⟨x.neg, core x.d, x.e + (((cutL x.d).length : Int) - ((core x.d).length : Int))⟩

/-- how many digits a text begins with -/
def run (l : Bs) : Nat := (l.takeWhile dig).length

/-- one more digit of an exponent -/
def expo (n : Nat) (b : UInt8) : Nat := min (10 * n + (b.toNat - 48)) 1000000000

/-- an exponent's digits -/
def expDigits (u : Bs) : Option Nat := if u = [] ∨ u.all dig = false then none else some (u.foldl expo 0)

/-- what stands behind a number's digits -/
def readExp : Bs → Option Int
  | [] => some 0
  | c :: t =>
    if (c == 101 || c == 69) = true then
      (if t.head? = some 45 then (expDigits t.tail).map (fun n => -(n : Int))
       else if t.head? = some 43 then (expDigits t.tail).map (fun n => (n : Int))
       else (expDigits t).map (fun n => (n : Int)))
    else none

/-- behind the sign -/
def readBody (neg : Bool) (t : Bs) : Option Dec :=
  if run t = 0 ∨ (1 < run t ∧ t.head? = some 48) then none else
    if (t.drop (run t)).head? = some 46 then
      (if run (t.drop (run t + 1)) = 0 then none else
        (readExp (t.drop (run t + 1 + run (t.drop (run t + 1))))).map fun e =>
          norm ⟨neg, t.take (run t) ++ (t.drop (run t + 1)).take (run (t.drop (run t + 1))), -(run (t.drop (run t + 1)) : Int) + e⟩)
    else (readExp (t.drop (run t))).map fun e => norm ⟨neg, t.take (run t), e⟩

def read (s : Bs) : Option Dec := if s.head? = some 45 then readBody true s.tail else readBody false s

/-- the number of digits -/
def val (l : Bs) : Nat := l.foldl (fun n b => 10 * n + (b.toNat - 48)) 0

def size (a b : Dec) : Int :=
  if (a.d.length : Int) + a.e < b.d.length + b.e then -1 else
  if (b.d.length : Int) + b.e < a.d.length + a.e then 1 else Lib.compareBytes a.d b.d

def cmpN (x y : Dec) : Int :=
  if x.d = [] ∧ y.d = [] then 0 else
  if (x.d = [] ∧ y.neg = true) ∨ (y.d = [] ∧ x.neg = false) then 1 else
  if x.d = [] ∨ y.d = [] then -1 else
  if x.neg ≠ y.neg ∧ x.neg = true then -1 else
  if x.neg ≠ y.neg then 1 else
  if x.neg = true then size y x else size x y

def cmp (a b : Dec) : Int := cmpN (norm a) (norm b)

def whole (x : Dec) : Bool := decide (0 ≤ (norm x).e)

def intN (y : Dec) : Int × Int :=
  if y.e < 0 then (0, 7) else
  if 16 < (y.d.length : Int) + y.e then (0, 8) else
  if 9007199254740991 < val y.d * 10 ^ y.e.toNat then (0, 8) else
  (if y.neg = true then -((val y.d * 10 ^ y.e.toNat : Nat) : Int) else ((val y.d * 10 ^ y.e.toNat : Nat) : Int), 0)

def int (x : Dec) : Int × Int := intN (norm x)

/-- a digit's byte -/
def fig (k : Nat) : UInt8 := UInt8.ofNat (48 + k)

def digs (n : Nat) : Bs := if n < 10 then [fig n] else digs (n / 10) ++ [fig (n % 10)]

def print (n : Int) : Bs := if n < 0 then 45 :: digs n.natAbs else digs n.natAbs

def check (x : Dec) : Bool := x.d.all dig && decide (-1000000000 ≤ x.e) && decide (x.e ≤ 1000000000)

-- laws

theorem dropWhile_len (p : UInt8 → Bool) (l : Bs) : (l.dropWhile p).length = l.length - (l.takeWhile p).length := by
  have := congrArg List.length (List.takeWhile_append_dropWhile (p := p) (l := l))
  rw [List.length_append] at this
  omega

theorem takeWhile_le (p : UInt8 → Bool) (l : Bs) : (l.takeWhile p).length ≤ l.length := by
  have := congrArg List.length (List.takeWhile_append_dropWhile (p := p) (l := l))
  rw [List.length_append] at this
  omega

theorem run_le (l : Bs) : run l ≤ l.length := takeWhile_le _ _

theorem cutset (b : UInt8) : ([48, 49, 50, 51, 52, 53, 54, 55, 56, 57] : Bs).contains b = dig b := by
  have key : ∀ c : UInt8, (b == c) = decide (b.toNat = c.toNat) := fun c => by
    rw [Bool.eq_iff_iff, beq_iff_eq, decide_eq_true_eq]
    exact ⟨fun e => e ▸ rfl, fun e => UInt8.toNat_inj.1 e⟩
  simp only [List.contains, List.elem, key, dig]
  have := b.toNat_lt
  rw [Bool.eq_iff_iff]
  simp only [Bool.and_eq_true, decide_eq_true_eq]
  constructor
  · intro hh
    repeat' split at hh
    all_goals first | (simp at *; omega) | (simp at hh)
  · intro hh
    repeat' split
    all_goals first | rfl | (simp at *; omega)

theorem trimLeft_digits (l : Bs) : Lib.trimLeftS l [48, 49, 50, 51, 52, 53, 54, 55, 56, 57] = l.dropWhile dig := by
  unfold Lib.trimLeftS
  congr 1
  funext b
  exact cutset b

theorem run_eq (l : Bs) : l.length - (Lib.trimLeftS l [48, 49, 50, 51, 52, 53, 54, 55, 56, 57]).length = run l := by
  rw [trimLeft_digits, dropWhile_len]
  have := takeWhile_le dig l
  unfold run
  omega

theorem cutL_eq (l : Bs) : Lib.trimLeftS l [48] = cutL l := by
  rw [Lib.trimLeftS_one]
  rfl

theorem dropWhile_nil_iff (p : UInt8 → Bool) (l : Bs) : l.dropWhile p = [] ↔ l.all p = true := by
  induction l with
  | nil => simp
  | cons b l ih =>
    rw [List.dropWhile_cons, List.all_cons]
    cases hb : p b <;> simp [hb, ih]

theorem trim_check (l : Bs) : (Lib.trimS l [48, 49, 50, 51, 52, 53, 54, 55, 56, 57] = []) ↔ l.all dig = true := by
  have e : (fun b => ([48, 49, 50, 51, 52, 53, 54, 55, 56, 57] : Bs).contains b) = dig := funext cutset
  unfold Lib.trimS Lib.trimLeftS Lib.trimRightS
  rw [e, dropWhile_nil_iff, List.all_reverse]
  -- what is left at the front is all digits; so all was
  constructor
  · intro hh
    have := (dropWhile_nil_iff dig l.reverse)
    rw [List.all_reverse] at this
    rw [← this]
    rw [List.all_eq_true] at hh
    cases hd : l.reverse.dropWhile dig with
    | nil => rfl
    | cons b m =>
      exfalso
      have hb := List.head?_dropWhile_not dig l.reverse
      have : b ∈ l.reverse.dropWhile dig := by rw [hd]; exact List.mem_cons_self
      have := hh b this
      simp only [hd, List.head?_cons] at hb
      rw [hb] at this
      exact Bool.false_ne_true this
  · intro hh
    rw [List.all_eq_true] at hh ⊢
    intro b hb
    have := (List.dropWhile_sublist dig).subset hb
    exact hh b (by simpa using this)

end Go.Proofs.YtcpfooceadgccaaDoor.Dig
end

section
/-
  Laws of numbers as digits, in plain Lean: noughts at either end, what is printed, the order.
-/
set_option linter.unusedVariables false
set_option linter.unusedSimpArgs false
set_option linter.unnecessarySimpa false
namespace Go.Proofs.YtcpfooceadgccaaDoor.Dig
open Go

/-- induction by the last one -/
theorem snocInd {p : Bs → Prop} (h0 : p []) (h1 : ∀ l b, p l → p (l ++ [b])) (l : Bs) : p l := by
  have key : ∀ m : Bs, p m.reverse := fun m => by
    induction m with
    | nil => exact h0
    | cons b m ih => rw [List.reverse_cons]; exact h1 _ _ ih
  have := key l.reverse
  rwa [List.reverse_reverse] at this

-- noughts at the front

theorem cutL_front (k : Nat) (l : Bs) : cutL (List.replicate k 48 ++ l) = cutL l := by
  induction k with
  | zero => rfl
  | succ k ih => rw [List.replicate_succ, List.cons_append]; unfold cutL at *; rw [List.dropWhile_cons]; simpa using ih

theorem all_noughts : ∀ (l : Bs), (∀ b ∈ l, b = 48) → l = List.replicate l.length 48
  | [], _ => rfl
  | b :: l, hl => by
    rw [List.length_cons, List.replicate_succ, hl b List.mem_cons_self, ← all_noughts l (fun c hc => hl c (List.mem_cons_of_mem _ hc))]

theorem takeWhile_noughts (l : Bs) : l.takeWhile (· == (48 : UInt8)) = List.replicate (l.takeWhile (· == (48 : UInt8))).length 48 := by
  refine all_noughts _ (fun b hb => ?_)
  induction l with
  | nil => simp at hb
  | cons c l ih =>
    rw [List.takeWhile_cons] at hb
    by_cases hc : c = 48
    · subst hc
      simp at hb
      rcases hb with hb | hb
      · exact hb
      · exact ih (by simpa using hb)
    · have : (c == (48 : UInt8)) = false := by simpa using hc
      rw [this] at hb
      simp at hb

theorem cutL_split (l : Bs) : ∃ k, l = List.replicate k 48 ++ cutL l :=
  ⟨_, by
    conv => lhs; rw [← List.takeWhile_append_dropWhile (p := (· == (48 : UInt8))) (l := l)]
    rw [takeWhile_noughts]
    rfl⟩

theorem cutR_split (l : Bs) : ∃ k, l = cutR l ++ List.replicate k 48 := by
  obtain ⟨k, hk⟩ := cutL_split l.reverse
  refine ⟨k, ?_⟩
  have := congrArg List.reverse hk
  rw [List.reverse_reverse, List.reverse_append, List.reverse_replicate] at this
  exact this

theorem cutR_back (k : Nat) (l : Bs) : cutR (l ++ List.replicate k 48) = cutR l := by
  have := cutL_front k l.reverse
  unfold cutR
  unfold cutL at this
  rw [List.reverse_append, List.reverse_replicate, this]

theorem cutL_head (l : Bs) : (cutL l).head? ≠ some 48 := by
  unfold cutL
  induction l with
  | nil => simp
  | cons c l ih =>
    rw [List.dropWhile_cons]
    split
    · exact ih
    · rename_i hc
      simpa using hc

theorem cutL_of_head (l : Bs) (hl : l.head? ≠ some 48) : cutL l = l := by
  cases l with
  | nil => rfl
  | cons c l =>
    unfold cutL
    have : (c == (48 : UInt8)) = false := by simpa using hl
    rw [List.dropWhile_cons, this]
    rfl

theorem cutL_cutL (l : Bs) : cutL (cutL l) = cutL l := cutL_of_head _ (cutL_head l)

theorem cutR_last (l : Bs) : (cutR l).getLast? ≠ some 48 := by
  unfold cutR
  rw [List.getLast?_reverse]
  exact cutL_head l.reverse

theorem cutR_cutR (l : Bs) : cutR (cutR l) = cutR l := by
  unfold cutR
  rw [List.reverse_reverse]
  exact congrArg List.reverse (cutL_cutL l.reverse)

theorem cutR_of_last (l : Bs) (b : UInt8) (hb : b ≠ 48) : cutR (l ++ [b]) = l ++ [b] := by
  unfold cutR
  have := cutL_of_head (l ++ [b]).reverse (by simpa using hb)
  unfold cutL at this
  rw [this, List.reverse_reverse]

theorem cutR_snoc (l : Bs) : cutR (l ++ [48]) = cutR l := cutR_back 1 l

theorem cutR_nil : cutR [] = [] := rfl

theorem cutR_le (l : Bs) : (cutR l).length ≤ l.length := by
  obtain ⟨k, hk⟩ := cutR_split l
  have := congrArg List.length hk
  rw [List.length_append] at this
  omega

theorem cutL_le (l : Bs) : (cutL l).length ≤ l.length := by
  obtain ⟨k, hk⟩ := cutL_split l
  have := congrArg List.length hk
  rw [List.length_append] at this
  omega

theorem core_head (l : Bs) : (core l).head? ≠ some 48 := by
  unfold core
  obtain ⟨k, hk⟩ := cutR_split (cutL l)
  cases hc : cutR (cutL l) with
  | nil => simp
  | cons c m =>
    rw [hc] at hk
    have := cutL_head l
    rw [hk] at this
    simpa using this

theorem core_core (l : Bs) : core (core l) = core l := by
  have e : core (core l) = cutR (cutL (core l)) := rfl
  rw [e, cutL_of_head _ (core_head l)]
  exact cutR_cutR _

theorem core_front (k : Nat) (l : Bs) : core (List.replicate k 48 ++ l) = core l := by unfold core; rw [cutL_front]

theorem cutL_back (k : Nat) (l : Bs) (hl : cutL l ≠ []) : cutL (l ++ List.replicate k 48) = cutL l ++ List.replicate k 48 := by
  obtain ⟨n, hn⟩ := cutL_split l
  conv => lhs; rw [hn]
  rw [List.append_assoc, cutL_front]
  refine cutL_of_head _ ?_
  have hh := cutL_head l
  cases hc : cutL l with
  | nil => exact absurd hc hl
  | cons c m => rw [hc] at hh; simpa using hh

theorem cutL_back_nil (k : Nat) (l : Bs) (hl : cutL l = []) : cutL (l ++ List.replicate k 48) = [] := by
  obtain ⟨n, hn⟩ := cutL_split l
  rw [hl, List.append_nil] at hn
  rw [hn, cutL_front]
  have := cutL_front k []
  rw [List.append_nil] at this
  rw [this]
  rfl

theorem core_back (k : Nat) (l : Bs) : core (l ++ List.replicate k 48) = core l := by
  unfold core
  by_cases hl : cutL l = []
  · rw [cutL_back_nil k l hl, hl]
  · rw [cutL_back k l hl, cutR_back]

theorem core_nil_cut (l : Bs) (hl : core l ≠ []) : cutL l ≠ [] := fun e => hl (by unfold core; rw [e]; rfl)

theorem norm_front (k : Nat) (s : Bool) (d : Bs) (e : Int) : norm ⟨s, List.replicate k 48 ++ d, e⟩ = norm ⟨s, d, e⟩ := by
  unfold norm
  simp only [core_front, cutL_front]

theorem norm_back (k : Nat) (s : Bool) (d : Bs) (e : Int) : norm ⟨s, d ++ List.replicate k 48, e⟩ = norm ⟨s, d, e + k⟩ := by
  unfold norm
  simp only [core_back]
  by_cases hc : core d = []
  · rw [if_pos hc, if_pos hc]
  · rw [if_neg hc, if_neg hc, cutL_back k d (core_nil_cut d hc), List.length_append, List.length_replicate]
    congr 1
    omega

theorem norm_d (x : Dec) : (norm x).d = core x.d := by
  unfold norm
  split
  · rename_i hc
    exact hc.symm
  · rfl

theorem norm_norm (x : Dec) : norm (norm x) = norm x := by
  by_cases hc : core x.d = []
  · have e : norm x = zero := by unfold norm; rw [if_pos hc]
    rw [e]
    rfl
  · have e : norm x = ⟨x.neg, core x.d, x.e + (((cutL x.d).length : Int) - ((core x.d).length : Int))⟩ := by unfold norm; rw [if_neg hc]
    rw [e]
    unfold norm
    simp only [core_core]
    rw [if_neg hc, cutL_of_head _ (core_head _)]
    congr 1
    omega

-- values

theorem val_snoc (l : Bs) (b : UInt8) : val (l ++ [b]) = 10 * val l + (b.toNat - 48) := by
  unfold val
  rw [List.foldl_append]
  rfl

theorem val_back (l : Bs) : ∀ k, val (l ++ List.replicate k 48) = val l * 10 ^ k
  | 0 => by simp
  | k + 1 => by
    rw [List.replicate_succ', ← List.append_assoc, val_snoc, val_back l k, Nat.pow_succ]
    have : (48 : UInt8).toNat - 48 = 0 := rfl
    rw [this, Nat.add_zero, Nat.mul_left_comm, Nat.mul_comm 10]

theorem val_front (k : Nat) (l : Bs) : val (List.replicate k 48 ++ l) = val l := by
  have e : ∀ k, (List.replicate k (48 : UInt8)).foldl (fun n b => 10 * n + (b.toNat - 48)) 0 = 0 := fun k => by
    induction k with
    | zero => rfl
    | succ k ih => rw [List.replicate_succ, List.foldl_cons]; exact ih
  unfold val
  rw [List.foldl_append, e]

theorem val_cutL (l : Bs) : val (cutL l) = val l := by
  obtain ⟨k, hk⟩ := cutL_split l
  conv => rhs; rw [hk]
  rw [val_front]

theorem val_core (l : Bs) : val (core l) * 10 ^ ((cutL l).length - (core l).length) = val l := by
  obtain ⟨k, hk⟩ := cutR_split (cutL l)
  have hn := congrArg List.length hk
  rw [List.length_append, List.length_replicate] at hn
  have : (cutL l).length - (core l).length = k := by unfold core; omega
  rw [this, ← val_back, ← val_cutL l]
  exact congrArg val hk.symm

theorem all_dig_snoc (l : Bs) (b : UInt8) : (l ++ [b]).all dig = (l.all dig && dig b) := by simp

theorem dig_le (b : UInt8) (hb : dig b = true) : 48 ≤ b.toNat ∧ b.toNat ≤ 57 := by
  unfold dig at hb
  simpa using hb

theorem take_all (l : Bs) (k : Nat) (hl : l.all dig = true) : (l.take k).all dig = true := by
  rw [List.all_eq_true] at hl ⊢
  exact fun b hb => hl b (List.mem_of_mem_take hb)
theorem all_mem (l : Bs) (k : Nat) (c : UInt8) (hl : l.all dig = true) (hc : l[k]? = some c) : dig c = true := by
  rw [List.all_eq_true] at hl
  exact hl c (List.mem_of_getElem? hc)
theorem cutL_sub (l : Bs) : ∀ b, b ∈ cutL l → b ∈ l := fun b hb => (List.dropWhile_sublist _).subset hb
theorem cutR_sub (l : Bs) : ∀ b, b ∈ cutR l → b ∈ l := fun b hb => by
  unfold cutR at hb
  have := (List.dropWhile_sublist (· == 48)).subset (List.mem_reverse.1 hb)
  simpa using this
theorem core_all (l : Bs) (hl : l.all dig = true) : (core l).all dig = true := by
  rw [List.all_eq_true] at hl ⊢
  exact fun b hb => hl b (cutL_sub l b (cutR_sub _ b hb))
theorem core_le (l : Bs) : (core l).length ≤ l.length := Nat.le_trans (cutR_le _) (cutL_le l)
theorem norm_e_bound (x : Dec) (hl : x.d.length ≤ 1000000000000) (he : x.e ≤ 1000000000000) (he' : -1000000000000 ≤ x.e) : (norm x).e ≤ 2000000000000 ∧ -2000000000000 ≤ (norm x).e := by
  have h1 := cutL_le x.d
  have h2 : (core x.d).length ≤ (cutL x.d).length := cutR_le _
  unfold norm
  split
  · exact ⟨by decide, by decide⟩
  · constructor
    · show x.e + _ ≤ _; omega
    · show _ ≤ x.e + _; omega

theorem val_lt (l : Bs) : l.all dig = true → val l < 10 ^ l.length := by
  induction l using snocInd with
  | h0 => intro _; decide
  | h1 l b ih =>
    intro hl
    rw [all_dig_snoc, Bool.and_eq_true] at hl
    have := ih hl.1
    have := dig_le b hl.2
    rw [val_snoc, List.length_append, List.length_singleton, Nat.pow_succ]
    omega

theorem val_ge (l : Bs) (hl : l ≠ []) (hd : l.all dig = true) (hh : l.head? ≠ some 48) : 10 ^ (l.length - 1) ≤ val l := by
  induction l using snocInd with
  | h0 => exact absurd rfl hl
  | h1 l b ih =>
    rw [all_dig_snoc, Bool.and_eq_true] at hd
    have hb := dig_le b hd.2
    rw [val_snoc, List.length_append, List.length_singleton]
    by_cases hn : l = []
    · subst hn
      have : b ≠ 48 := by simpa using hh
      have : b.toNat ≠ 48 := fun e => this (UInt8.toNat_inj.1 (by rw [e]; rfl))
      simp [val]
      omega
    · have hh' : l.head? ≠ some 48 := by
        cases l with
        | nil => exact absurd rfl hn
        | cons c m => simpa using hh
      have := ih hn hd.1 hh'
      have hlen : 0 < l.length := List.length_pos_iff.2 hn
      have e : l.length + 1 - 1 = (l.length - 1) + 1 := by omega
      rw [e, Nat.pow_succ]
      omega

-- what is printed

theorem digs_ne (n : Nat) : digs n ≠ [] := by
  unfold digs
  split <;> simp

theorem toNat_digit (k : Nat) (hk : k < 10) : (fig k).toNat = 48 + k := by
  unfold fig
  rw [UInt8.toNat_ofNat']
  omega

theorem dig_digit (k : Nat) (hk : k < 10) : dig (fig k) = true := by
  unfold dig
  rw [toNat_digit k hk]
  simp
  omega

theorem digs_all (n : Nat) : (digs n).all dig = true := by
  induction n using Nat.strongRecOn with
  | ind n ih =>
    unfold digs
    split
    · rename_i hn
      simp [dig_digit n hn]
    · rw [all_dig_snoc, ih (n / 10) (by omega), dig_digit _ (by omega)]
      rfl

theorem val_digs (n : Nat) : val (digs n) = n := by
  induction n using Nat.strongRecOn with
  | ind n ih =>
    unfold digs
    split
    · rename_i hn
      show 10 * 0 + ((fig n).toNat - 48) = n
      rw [toNat_digit n hn]
      omega
    · rw [val_snoc, ih (n / 10) (by omega), toNat_digit _ (by omega)]
      omega

theorem digs_head (n : Nat) (hn : 0 < n) : (digs n).head? ≠ some 48 := by
  induction n using Nat.strongRecOn with
  | ind n ih =>
    unfold digs
    split
    · rename_i hlt
      have := toNat_digit n hlt
      simp
      intro e
      rw [e] at this
      have h48 : (48 : UInt8).toNat = 48 := rfl
      omega
    · have := ih (n / 10) (by omega) (by omega)
      cases hd : digs (n / 10) with
      | nil => exact absurd hd (digs_ne _)
      | cons c m => rw [hd] at this; simpa using this

theorem digs_zero : digs 0 = [48] := by unfold digs; rfl

theorem core_digs_ne (n : Nat) (hn : 0 < n) : core (digs n) ≠ [] := by
  intro e
  have := val_core (digs n)
  rw [e, val_digs] at this
  simp [val] at this
  omega

-- a text of digits alone is read

theorem run_all (l : Bs) (hl : l.all dig = true) : run l = l.length := by
  unfold run
  induction l with
  | nil => rfl
  | cons b l ih =>
    rw [List.all_cons, Bool.and_eq_true] at hl
    rw [List.takeWhile_cons, hl.1]
    simpa using ih hl.2

theorem run_lt (l : Bs) : ∀ (n : Nat), n < run l → ∃ b, l[n]? = some b ∧ 48 ≤ b.toNat ∧ b.toNat ≤ 57 := by
  induction l with
  | nil => intro n hn; simp [run] at hn
  | cons c l ih =>
    intro n hn
    unfold run at hn
    rw [List.takeWhile_cons] at hn
    cases hc : dig c with
    | false => rw [hc] at hn; simp at hn
    | true =>
      rw [hc] at hn
      cases n with
      | zero => exact ⟨c, rfl, dig_le c hc⟩
      | succ n => exact ih n (by unfold run; simpa using hn)

theorem run_end (l : Bs) : l[run l]? = none ∨ ∃ b, l[run l]? = some b ∧ (¬ 48 ≤ b.toNat ∨ (48 ≤ b.toNat ∧ ¬ b.toNat ≤ 57)) := by
  induction l with
  | nil => left; rfl
  | cons c l ih =>
    cases hc : dig c with
    | false =>
      right
      have e : run (c :: l) = 0 := by unfold run; rw [List.takeWhile_cons, hc]; rfl
      rw [e]
      refine ⟨c, rfl, ?_⟩
      unfold dig at hc
      simp at hc
      omega
    | true =>
      have e : run (c :: l) = run l + 1 := by unfold run; rw [List.takeWhile_cons, hc]; rfl
      rw [e]
      simpa using ih

theorem run_app (l m : Bs) (hl : l.all dig = true) (hm : ∀ b, m.head? = some b → dig b = false) : run (l ++ m) = l.length := by
  unfold run
  rw [List.takeWhile_append_of_pos (by simpa using hl)]
  cases m with
  | nil => simp
  | cons b m => rw [List.takeWhile_cons, hm b rfl]; simp

-- the order of bytes

theorem cmp_same : ∀ (a : Bs), Lib.compareBytes a a = 0
  | [] => rfl
  | x :: a => by
    unfold Lib.compareBytes
    rw [if_neg (by rw [UInt8.lt_iff_toNat_lt]; omega), if_neg (by rw [UInt8.lt_iff_toNat_lt]; omega)]
    exact cmp_same a

theorem cmp_less : ∀ (a b : Bs), Op.bytesLess a b = true → Lib.compareBytes a b = -1
  | [], [], h1 => by simp [Op.bytesLess] at h1
  | [], _ :: _, _ => rfl
  | _ :: _, [], h1 => by simp [Op.bytesLess] at h1
  | x :: a, y :: b, h1 => by
    unfold Op.bytesLess at h1
    unfold Lib.compareBytes
    by_cases hxy : x < y
    · rw [if_pos hxy]
    · rw [if_neg hxy]
      simp [hxy] at h1
      obtain ⟨rfl, h1⟩ := h1
      rw [if_neg hxy]
      exact cmp_less a b h1

theorem cmp_more : ∀ (a b : Bs), Op.bytesLess a b = false → a ≠ b → Lib.compareBytes a b = 1
  | [], [], _, h2 => absurd rfl h2
  | [], _ :: _, h1, _ => by simp [Op.bytesLess] at h1
  | _ :: _, [], _, _ => rfl
  | x :: a, y :: b, h1, h2 => by
    unfold Op.bytesLess at h1
    unfold Lib.compareBytes
    simp at h1
    have hxy : ¬ x < y := by rw [UInt8.lt_iff_toNat_lt]; have := h1.1; rw [UInt8.le_iff_toNat_le] at this; omega
    rw [if_neg hxy]
    by_cases hyx : y < x
    · rw [if_pos hyx]
    · rw [if_neg hyx]
      have e : x = y := by
        rw [UInt8.lt_iff_toNat_lt] at hxy hyx
        exact UInt8.toNat_inj.1 (by omega)
      subst e
      exact cmp_more a b (h1.2 rfl) (fun e => h2 (by rw [e]))

end Go.Proofs.YtcpfooceadgccaaDoor.Dig
end

section
/- Laws of what is read, in plain Lean: by places in the text. -/
set_option linter.unusedVariables false
set_option linter.unusedSimpArgs false
namespace Go.Proofs.YtcpfooceadgccaaDoor.Dig
open Go

theorem head_drop (l : Bs) (i : Nat) : (l.drop i).head? = l[i]? := by rw [List.head?_eq_getElem?, List.getElem?_drop]; simp
theorem read_neg (l : Bs) (h : l[0]? = some 45) : read l = readBody true (l.drop 1) := by
  cases l with
  | nil => simp at h
  | cons c t => unfold read; rw [if_pos (by simpa using h)]; rfl
theorem read_pos (l : Bs) (h : ¬ l[0]? = some 45) : read l = readBody false (l.drop 0) := by
  unfold read
  rw [if_neg (by rw [List.head?_eq_getElem?]; exact h)]
  rfl
theorem readBody_bad (sg : Bool) (l : Bs) (i n : Nat) (hn : n = run (l.drop i)) (h : n = 0 ∨ (1 < n ∧ l[i]? = some 48)) : readBody sg (l.drop i) = none := by
  unfold readBody
  rw [if_pos (by rw [← hn, head_drop]; exact h)]
/-- behind the digits, with no point -/
theorem readBody_plain (sg : Bool) (l : Bs) (i n : Nat) (hn : n = run (l.drop i)) (h : ¬ (n = 0 ∨ (1 < n ∧ l[i]? = some 48))) (hp : ¬ l[i + n]? = some 46) :
    readBody sg (l.drop i) = (readExp (l.drop (i + n))).map fun e => norm ⟨sg, (l.drop i).take n, 0 + e⟩ := by
  unfold readBody
  rw [if_neg (by rw [← hn, head_drop]; exact h), ← hn, List.drop_drop, if_neg (by rw [head_drop]; exact hp)]
  simp
theorem readBody_point_bad (sg : Bool) (l : Bs) (i n : Nat) (hn : n = run (l.drop i)) (h : ¬ (n = 0 ∨ (1 < n ∧ l[i]? = some 48))) (hp : l[i + n]? = some 46) (h2 : run (l.drop (i + n + 1)) = 0) :
    readBody sg (l.drop i) = none := by
  unfold readBody
  rw [if_neg (by rw [← hn, head_drop]; exact h), ← hn, List.drop_drop, if_pos (by rw [head_drop]; exact hp), List.drop_drop, if_pos (by rw [show i + (n + 1) = i + n + 1 by omega]; exact h2)]
theorem readBody_point (sg : Bool) (l : Bs) (i n m : Nat) (hn : n = run (l.drop i)) (h : ¬ (n = 0 ∨ (1 < n ∧ l[i]? = some 48))) (hp : l[i + n]? = some 46) (h2 : m = run (l.drop (i + n + 1))) (h3 : m ≠ 0) :
    readBody sg (l.drop i) = (readExp (l.drop (i + n + 1 + m))).map fun e => norm ⟨sg, (l.drop i).take n ++ (l.drop (i + n + 1)).take m, -(m : Int) + e⟩ := by
  unfold readBody
  rw [if_neg (by rw [← hn, head_drop]; exact h), ← hn, List.drop_drop, if_pos (by rw [head_drop]; exact hp), List.drop_drop, show i + (n + 1) = i + n + 1 by omega, ← h2, if_neg h3, List.drop_drop, show i + (n + 1 + m) = i + n + 1 + m by omega]
/-- what stands behind e -/
def expSign (l : Bs) (k : Nat) : Nat := if l[k]? = some 45 ∨ l[k]? = some 43 then k + 1 else k
theorem readExp_none (l : Bs) (j : Nat) (h : ¬ (l[j]? = some 101 ∨ l[j]? = some 69)) : readExp (l.drop j) = if j < l.length then none else some 0 := by
  cases hd : l.drop j with
  | nil => rw [if_neg (by have := List.drop_eq_nil_iff.1 hd; omega)]; rfl
  | cons c t =>
    have hc : l[j]? = some c := by have := head_drop l j; rw [hd] at this; exact this.symm
    rw [hc] at h
    have hj := (List.getElem?_eq_some_iff.1 hc).1
    rw [if_pos hj]
    unfold readExp
    exact if_neg (by simpa using h)
theorem readExp_e (l : Bs) (j : Nat) (h : l[j]? = some 101 ∨ l[j]? = some 69) :
    readExp (l.drop j) = (expDigits (l.drop (expSign l (j + 1)))).map fun n => if l[j + 1]? = some 45 then -(n : Int) else (n : Int) := by
  cases hd : l.drop j with
  | nil => have := head_drop l j; rw [hd] at this; rw [← this] at h; simp at h
  | cons c t =>
    have hc : l[j]? = some c := by have := head_drop l j; rw [hd] at this; exact this.symm
    rw [hc] at h
    have ht : t = l.drop (j + 1) := by rw [← List.drop_drop (i := 1) (j := j), hd]; rfl
    have hh : t.head? = l[j + 1]? := by rw [ht, head_drop]
    have e0 : readExp (c :: t) = if t.head? = some 45 then (expDigits t.tail).map (fun n => -(n : Int)) else if t.head? = some 43 then (expDigits t.tail).map (fun n => (n : Int)) else (expDigits t).map (fun n => (n : Int)) := by
      conv => lhs; unfold readExp
      exact if_pos (by simpa using h)
    rw [e0, hh]
    unfold expSign
    have htl : t.tail = l.drop (j + 1 + 1) := by rw [ht, List.tail_drop]
    by_cases h1 : l[j + 1]? = some 45
    · simp only [h1, if_true, true_or, htl]
    · by_cases h2 : l[j + 1]? = some 43
      · rw [if_neg h1, if_pos h2, if_pos (Or.inr h2), htl]
        simp only [if_neg h1]
      · rw [if_neg h1, if_neg h2, if_neg (by simp [h1, h2]), ht]
        simp only [if_neg h1]
theorem run_take (u : Bs) : (u.take (run u)).all dig = true := by
  unfold run
  induction u with
  | nil => rfl
  | cons c u ih =>
    rw [List.takeWhile_cons]
    cases hc : dig c with
    | false => rfl
    | true => simpa [hc] using ih
theorem expDigits_eq (u : Bs) (m : Nat) (hm : m = run u) : expDigits u = if m = 0 ∨ m < u.length then none else some ((u.take m).foldl expo 0) := by
  unfold expDigits
  by_cases h0 : m = 0
  · rw [if_pos (Or.inl h0), if_pos]
    cases u with
    | nil => exact Or.inl rfl
    | cons c u =>
      right
      have : dig c = false := by
        cases hc : dig c with
        | false => rfl
        | true => rw [hm] at h0; unfold run at h0; rw [List.takeWhile_cons, hc] at h0; simp at h0
      simp [this]
  · by_cases h1 : m < u.length
    · rw [if_pos (Or.inr h1), if_pos]
      right
      rw [List.all_eq_false]
      rcases run_end u with h2 | ⟨b, hb, h2⟩
      · rw [← hm] at h2; rw [List.getElem?_eq_none_iff] at h2; omega
      · exact ⟨b, List.mem_of_getElem? hb, by unfold dig; simp; omega⟩
    · have hu : u.take m = u := List.take_of_length_le (by omega)
      have ha : u.all dig = true := by have := run_take u; rw [← hm, hu] at this; exact this
      rw [if_neg (c := m = 0 ∨ m < u.length) (by omega), if_neg, hu]
      rintro (h2 | h2)
      · rw [h2] at hm; exact h0 hm
      · rw [ha] at h2; exact Bool.false_ne_true h2.symm
theorem fold_expo_le (u : Bs) (a : Nat) (ha : a ≤ 1000000000) : u.foldl expo a ≤ 1000000000 := by
  induction u generalizing a with
  | nil => exact ha
  | cons c u ih => exact ih _ (Nat.min_le_right _ _)
theorem expDigits_bound (u : Bs) (n : Nat) (h : expDigits u = some n) : n ≤ 1000000000 := by
  unfold expDigits at h
  split at h
  · cases h
  · cases h; exact fold_expo_le u 0 (by omega)
theorem readExp_bound (l : Bs) (e : Int) (h : readExp l = some e) : -1000000000 ≤ e ∧ e ≤ 1000000000 := by
  by_cases hl : l = []
  · subst hl; cases h; exact ⟨by decide, by decide⟩
  have h0 : l.drop 0 = l := rfl
  by_cases he : l[0]? = some 101 ∨ l[0]? = some 69
  · have := readExp_e l 0 he
    rw [h0, h] at this
    cases hd : expDigits (l.drop (expSign l (0 + 1))) with
    | none => rw [hd] at this; cases this
    | some n =>
      rw [hd] at this
      have hb := expDigits_bound _ n hd
      simp at this
      split at this <;> omega
  · have := readExp_none l 0 he
    rw [h0, h] at this
    split at this
    · cases this
    · cases this; exact ⟨by decide, by decide⟩
end Go.Proofs.YtcpfooceadgccaaDoor.Dig
end

section
/- Laws of what is printed and read, in plain Lean. -/
set_option linter.unusedVariables false
set_option linter.unusedSimpArgs false
namespace Go.Proofs.YtcpfooceadgccaaDoor.Dig
open Go

theorem digs_pos_head (m : Nat) (b : UInt8) (h : (digs m).head? = some b) : dig b = true := by
  have := digs_all m
  cases hd : digs m with
  | nil => exact absurd hd (digs_ne m)
  | cons c t => rw [hd] at h this; simp at h; rw [← h]; rw [List.all_cons, Bool.and_eq_true] at this; exact this.1

theorem readBody_digs (s : Bool) (m : Nat) : readBody s (digs m) = some (norm ⟨s, digs m, 0⟩) := by
  have hr : run (digs m) = (digs m).length := run_all _ (digs_all m)
  have hl : 0 < (digs m).length := List.length_pos_iff.2 (digs_ne m)
  unfold readBody
  rw [hr, if_neg, List.drop_length, if_neg (by simp), List.take_length]
  · rfl
  · rintro (h | ⟨h1, h2⟩)
    · omega
    · rcases Nat.eq_zero_or_pos m with h0 | h0
      · subst h0; rw [digs_zero] at h1; simp at h1
      · exact digs_head m h0 h2

theorem read_print (n : Int) : read (print n) = some (norm ⟨decide (n < 0), digs n.natAbs, 0⟩) := by
  unfold print
  by_cases hn : n < 0
  · rw [if_pos hn, decide_eq_true hn]
    show readBody true (digs n.natAbs) = _
    exact readBody_digs _ _
  · rw [if_neg hn, decide_eq_false hn]
    unfold read
    rw [if_neg (fun h => by have := digs_pos_head _ _ h; exact absurd this (by decide))]
    exact readBody_digs _ _

theorem core_eq_nil_val (l : Bs) (h : core l = []) : val l = 0 := by
  have := val_core l
  rw [h] at this
  simp [val] at this
  unfold val
  omega

/-- a whole number's digits, with noughts in the exponent: the integer -/
theorem int_of (s : Bool) (d : Bs) (e : Nat) (hd : d.all dig = true) :
    int ⟨s, d, e⟩ = if 9007199254740991 < val d * 10 ^ e then (0, 8) else ((if s = true then -((val d * 10 ^ e : Nat) : Int) else ((val d * 10 ^ e : Nat) : Int)), 0) := by
  by_cases hc : core d = []
  · have hv := core_eq_nil_val d hc
    have : norm ⟨s, d, e⟩ = zero := by unfold norm; rw [if_pos hc]
    unfold int
    rw [this, hv, Nat.zero_mul, if_neg (by omega)]
    cases s <;> rfl
  · have hn : norm ⟨s, d, e⟩ = ⟨s, core d, (e : Int) + (((cutL d).length : Int) - ((core d).length : Int))⟩ := by unfold norm; rw [if_neg hc]
    have hle : (core d).length ≤ (cutL d).length := cutR_le _
    have he : ((e : Int) + (((cutL d).length : Int) - ((core d).length : Int))) = ((e + ((cutL d).length - (core d).length) : Nat) : Int) := by omega
    have hval : val (core d) * 10 ^ (e + ((cutL d).length - (core d).length)) = val d * 10 ^ e := by
      rw [Nat.add_comm, Nat.pow_add, ← Nat.mul_assoc, val_core]
    have hcd := core_all d hd
    unfold int
    rw [hn, he]
    unfold intN
    rw [if_neg (by show ¬ ((_ : Nat) : Int) < 0; omega)]
    have ht : ((e + ((cutL d).length - (core d).length) : Nat) : Int).toNat = e + ((cutL d).length - (core d).length) := Int.toNat_natCast _
    simp only [ht, hval]
    by_cases h16 : (16 : Int) < ((core d).length : Int) + ((e + ((cutL d).length - (core d).length) : Nat) : Int)
    · rw [if_pos h16, if_pos]
      have h1 := val_ge (core d) hc hcd (core_head d)
      have h2 : 10 ^ ((core d).length - 1) * 10 ^ (e + ((cutL d).length - (core d).length)) ≤ val d * 10 ^ e := by rw [← hval]; exact Nat.mul_le_mul_right _ h1
      rw [← Nat.pow_add] at h2
      have hpos : 0 < (core d).length := List.length_pos_iff.2 hc
      have h3 : 10 ^ 16 ≤ 10 ^ ((core d).length - 1 + (e + ((cutL d).length - (core d).length))) := Nat.pow_le_pow_right (by omega) (by omega)
      have h4 : (10 : Nat) ^ 16 = 10000000000000000 := by decide
      omega
    · rw [if_neg h16]

theorem int_norm (x : Dec) : int (norm x) = int x := by unfold int; rw [norm_norm]

theorem int_print (s : Bool) (m : Nat) : int (norm ⟨s, digs m, 0⟩) = if 9007199254740991 < m then (0, 8) else ((if s = true then -(m : Int) else (m : Int)), 0) := by
  rw [int_norm]
  have := int_of s (digs m) 0 (digs_all m)
  rw [Nat.pow_zero, Nat.mul_one, val_digs] at this
  exact this

theorem digs_length_le (k : Nat) : ∀ n, n < 10 ^ (k + 1) → (digs n).length ≤ k + 1 := by
  induction k with
  | zero => intro n hn; unfold digs; rw [if_pos (by omega)]; simp
  | succ k ih =>
    intro n hn
    unfold digs
    split
    · simp
    · have := ih (n / 10) (by rw [Nat.pow_succ] at hn; omega)
      simp
      omega
theorem norm_all (x : Dec) (h : x.d.all dig = true) : (norm x).d.all dig = true := by rw [norm_d]; exact core_all _ h
end Go.Proofs.YtcpfooceadgccaaDoor.Dig
end

section
/- Laws of the forms of a whole number, in plain Lean. -/
set_option linter.unusedVariables false
set_option linter.unusedSimpArgs false
namespace Go.Proofs.YtcpfooceadgccaaDoor.Dig
open Go

theorem fold_expo_val (u : Bs) (hu : u.all dig = true) : u.foldl expo 0 = min (val u) 1000000000 := by
  induction u using snocInd with
  | h0 => rfl
  | h1 l b ih =>
    rw [all_dig_snoc, Bool.and_eq_true] at hu
    rw [List.foldl_append, ih hu.1, val_snoc]
    show min (10 * min (val l) 1000000000 + (b.toNat - 48)) 1000000000 = _
    omega
theorem expDigits_all (u : Bs) (h0 : u ≠ []) (hu : u.all dig = true) : expDigits u = some (min (val u) 1000000000) := by
  unfold expDigits
  rw [if_neg (by rintro (h | h); exact h0 h; rw [hu] at h; cases h), fold_expo_val u hu]
theorem run_head (A X : Bs) (hA : A.all dig = true) (hX : ∀ b, X.head? = some b → dig b = false) : run (A ++ X) = A.length := run_app A X hA hX

theorem rb_plain (s : Bool) (A X : Bs) (h0 : A ≠ []) (hA : A.all dig = true) (hh : 1 < A.length → A.head? ≠ some 48) (hX : ∀ b, X.head? = some b → dig b = false ∧ b ≠ 46) :
    readBody s (A ++ X) = (readExp X).map fun e => norm ⟨s, A, 0 + e⟩ := by
  have hr := run_head A X hA (fun b hb => (hX b hb).1)
  have hl : 0 < A.length := List.length_pos_iff.2 h0
  have h1 : ¬ (A.length = 0 ∨ (1 < A.length ∧ (A ++ X)[0]? = some 48)) := by
    rintro (h | ⟨h, h'⟩)
    · omega
    · rw [List.getElem?_append_left hl, ← List.head?_eq_getElem?] at h'
      exact hh h h'
  have h2 : ¬ (A ++ X)[0 + A.length]? = some 46 := by
    rw [Nat.zero_add, List.getElem?_append_right (Nat.le_refl _), Nat.sub_self, ← List.head?_eq_getElem?]
    intro h
    exact (hX _ h).2 rfl
  have := readBody_plain s (A ++ X) 0 A.length hr.symm h1 h2
  simpa using this

theorem rb_point (s : Bool) (A B X : Bs) (h0 : A ≠ []) (hA : A.all dig = true) (hh : 1 < A.length → A.head? ≠ some 48) (hB0 : B ≠ []) (hB : B.all dig = true) (hX : ∀ b, X.head? = some b → dig b = false) :
    readBody s (A ++ 46 :: (B ++ X)) = (readExp X).map fun e => norm ⟨s, A ++ B, -(B.length : Int) + e⟩ := by
  have hr := run_head A (46 :: (B ++ X)) hA (fun b hb => by simp at hb; rw [← hb]; rfl)
  have hl : 0 < A.length := List.length_pos_iff.2 h0
  have hlB : 0 < B.length := List.length_pos_iff.2 hB0
  have h1 : ¬ (A.length = 0 ∨ (1 < A.length ∧ (A ++ 46 :: (B ++ X))[0]? = some 48)) := by
    rintro (h | ⟨h, h'⟩)
    · omega
    · rw [List.getElem?_append_left hl, ← List.head?_eq_getElem?] at h'
      exact hh h h'
  have h2 : (A ++ 46 :: (B ++ X))[0 + A.length]? = some 46 := by
    rw [Nat.zero_add, List.getElem?_append_right (Nat.le_refl _), Nat.sub_self]; rfl
  have hd : (A ++ 46 :: (B ++ X)).drop (0 + A.length + 1) = B ++ X := by
    rw [Nat.zero_add, ← List.drop_drop, List.drop_left]; rfl
  have hr2 := run_head B X hB hX
  have := readBody_point s (A ++ 46 :: (B ++ X)) 0 A.length B.length hr.symm h1 h2 (by rw [hd, hr2]) (by omega)
  rw [hd] at this
  rw [show (A ++ 46 :: (B ++ X)).drop (0 + A.length + 1 + B.length) = X by rw [← List.drop_drop, hd, List.drop_left]] at this
  simpa using this

theorem readExp_101 (t : Bs) (h45 : t.head? ≠ some 45) (h43 : t.head? ≠ some 43) : readExp (101 :: t) = (expDigits t).map (fun n => (n : Int)) := by
  have e0 : readExp (101 :: t) = if t.head? = some 45 then (expDigits t.tail).map (fun n => -(n : Int)) else if t.head? = some 43 then (expDigits t.tail).map (fun n => (n : Int)) else (expDigits t).map (fun n => (n : Int)) := by
    conv => lhs; unfold readExp
    exact if_pos rfl
  rw [e0, if_neg h45, if_neg h43]

def ys (s : Bool) (m : Nat) : Dec := norm ⟨s, digs m, 0⟩

theorem digs_lead (m : Nat) : 1 < (digs m).length → (digs m).head? ≠ some 48 := by
  intro h
  rcases Nat.eq_zero_or_pos m with h0 | h0
  · subst h0; rw [digs_zero] at h; simp at h
  · exact digs_head m h0
theorem rep_all (k : Nat) : (List.replicate k (48 : UInt8)).all dig = true := by
  rw [List.all_eq_true]; intro b hb; rw [List.mem_replicate] at hb; rw [hb.2]; rfl
theorem digs_rep_lead (m k : Nat) (h0 : 0 < m) : 1 < (digs m ++ List.replicate k 48).length → (digs m ++ List.replicate k (48 : UInt8)).head? ≠ some 48 := by
  intro _
  have := digs_head m h0
  cases hd : digs m with
  | nil => exact absurd hd (digs_ne m)
  | cons c t => rw [hd] at this; simpa using this
theorem val_rep (k : Nat) : val (List.replicate k (48 : UInt8)) = 0 := by
  have := val_front k []
  rw [List.append_nil] at this
  rw [this]; rfl

/-- a sign ahead of a body -/
theorem read_sign (m : Int) (b : Bs) : read (if m < 0 then 45 :: (digs m.natAbs ++ b) else digs m.natAbs ++ b) = readBody (decide (m < 0)) (digs m.natAbs ++ b) := by
  by_cases h : m < 0
  · rw [if_pos h, decide_eq_true h]; rfl
  · rw [if_neg h, decide_eq_false h]
    unfold read
    rw [if_neg]
    intro hh
    have : (digs m.natAbs).head? = some 45 := by
      cases hd : digs m.natAbs with
      | nil => exact absurd hd (digs_ne _)
      | cons c t => rw [hd] at hh; simpa using hh
    exact absurd (digs_pos_head _ _ this) (by decide)
theorem print_app (m : Int) (b : Bs) : print m ++ b = if m < 0 then 45 :: (digs m.natAbs ++ b) else digs m.natAbs ++ b := by
  unfold print
  split <;> simp
theorem read_app (m : Int) (b : Bs) : read (print m ++ b) = readBody (decide (m < 0)) (digs m.natAbs ++ b) := by rw [print_app, read_sign]

theorem form0 (m : Int) (z : Nat) : read (((print m ++ [46]) ++ List.replicate z 48) ++ [48]) = some (ys (decide (m < 0)) m.natAbs) := by
  have e : ((print m ++ [46]) ++ List.replicate z 48) ++ [48] = print m ++ (46 :: (List.replicate (z + 1) 48 ++ [])) := by
    rw [List.replicate_succ']; simp
  rw [e, read_app, rb_point _ _ _ _ (digs_ne _) (digs_all _) (digs_lead _) (by simp) (rep_all _) (by simp)]
  have hx : readExp [] = some 0 := rfl
  rw [hx]
  simp only [Option.map_some]
  rw [norm_back]
  simp [ys]
  congr 2
  omega

theorem form1 (m : Int) (z : Nat) (hm : m ≠ 0) (hz : z ≤ 1000000000) : read (((print m ++ List.replicate z 48) ++ [69, 45]) ++ print z) = some (ys (decide (m < 0)) m.natAbs) := by
  have e : ((print m ++ List.replicate z 48) ++ [69, 45]) ++ print (z : Int) = print m ++ (List.replicate z 48 ++ (69 :: 45 :: digs z)) := by
    have : print (z : Int) = digs z := by unfold print; rw [if_neg (by omega)]; simp
    rw [this]; simp
  rw [e, read_app, ← List.append_assoc, rb_plain _ _ _ (by simp [digs_ne]) (by rw [List.all_append, digs_all, rep_all]; rfl) (digs_rep_lead _ _ (by omega)) (by intro b hb; simp at hb; rw [← hb]; exact ⟨rfl, by decide⟩)]
  have hx : readExp (69 :: 45 :: digs z) = some (-(z : Int)) := by
    show (expDigits (digs z)).map (fun n => -(n : Int)) = _
    rw [expDigits_all _ (digs_ne _) (digs_all _), val_digs, Nat.min_eq_left hz]; rfl
  rw [hx]
  simp only [Option.map_some]
  rw [norm_back]
  simp [ys]
  congr 2
  omega

theorem form1z (z : Nat) : read ((print 0 ++ [101, 48]) ++ List.replicate z 48) = some (ys false 0) := by
  have e : (print 0 ++ [101, 48]) ++ List.replicate z 48 = print 0 ++ (101 :: List.replicate (z + 1) 48) := by
    rw [List.replicate_succ]; simp
  rw [e, read_app]
  rw [rb_plain _ _ _ (digs_ne _) (digs_all _) (digs_lead _) (by intro b hb; simp at hb; rw [← hb]; exact ⟨rfl, by decide⟩)]
  have hx : readExp (101 :: List.replicate (z + 1) 48) = some 0 := by
    have : readExp (101 :: List.replicate (z + 1) 48) = (expDigits (List.replicate (z + 1) 48)).map (fun n => (n : Int)) := by
      unfold readExp
      rw [List.replicate_succ]; rfl
    rw [this, expDigits_all _ (by simp) (rep_all _), val_rep]; rfl
  rw [hx]
  rfl

theorem form2 (m : Int) (z : Nat) (hz : 0 < z) : read (((print m ++ [46]) ++ List.replicate z 48) ++ [101, 43, 48]) = some (ys (decide (m < 0)) m.natAbs) := by
  have e : ((print m ++ [46]) ++ List.replicate z 48) ++ [101, 43, 48] = print m ++ (46 :: (List.replicate z 48 ++ [101, 43, 48])) := by simp
  rw [e, read_app, rb_point _ _ _ _ (digs_ne _) (digs_all _) (digs_lead _) (by simp; omega) (rep_all _) (by intro b hb; simp at hb; rw [← hb]; rfl)]
  have hx : readExp [101, 43, 48] = some 0 := rfl
  rw [hx]
  simp only [Option.map_some]
  rw [norm_back]
  simp [ys]
  congr 2
  omega

theorem form_plain (m : Int) : read (print m) = some (ys (decide (m < 0)) m.natAbs) := read_print m

theorem form3 (m z : Nat) (hm : 0 < m) (hz : 0 < z) (hb : z + (digs m).length ≤ 1000) : read (((([48, 46] ++ (List.replicate z 48).drop 1) ++ digs m) ++ [101]) ++ print (((z : Int) - 1) + (digs m).length)) = some (ys false m) := by
  obtain ⟨k, rfl⟩ : ∃ k, z = k + 1 := ⟨z - 1, by omega⟩
  have hp : print ((((k + 1 : Nat) : Int) - 1) + (digs m).length) = digs (k + (digs m).length) := by
    rw [show (((k + 1 : Nat) : Int) - 1) + ((digs m).length : Int) = ((k + (digs m).length : Nat) : Int) by omega]
    unfold print; rw [if_neg (by omega), Int.natAbs_natCast]
  rw [hp]
  have e : ((([48, 46] ++ (List.replicate (k + 1) 48).drop 1) ++ digs m) ++ [101]) ++ digs (k + (digs m).length) = [48] ++ 46 :: ((List.replicate k 48 ++ digs m) ++ (101 :: digs (k + (digs m).length))) := by
    rw [List.replicate_succ]; simp
  rw [e]
  have hr : read ([48] ++ 46 :: ((List.replicate k 48 ++ digs m) ++ (101 :: digs (k + (digs m).length)))) = readBody false ([48] ++ 46 :: ((List.replicate k 48 ++ digs m) ++ (101 :: digs (k + (digs m).length)))) := rfl
  rw [hr, rb_point _ _ _ _ (by simp) rfl (by simp) (by simp [digs_ne]) (by rw [List.all_append, digs_all, rep_all]; rfl) (by intro b hb; simp at hb; rw [← hb]; rfl)]
  have hx : readExp (101 :: digs (k + (digs m).length)) = some ((k + (digs m).length : Nat) : Int) := by
    have h1 : (digs (k + (digs m).length)).head? ≠ some 45 := fun h => absurd (digs_pos_head _ _ h) (by decide)
    have h2 : (digs (k + (digs m).length)).head? ≠ some 43 := fun h => absurd (digs_pos_head _ _ h) (by decide)
    rw [readExp_101 _ h1 h2, expDigits_all _ (digs_ne _) (digs_all _), val_digs, Nat.min_eq_left (by omega)]; rfl
  rw [hx]
  simp only [Option.map_some]
  have hl : -((List.replicate k (48 : UInt8) ++ digs m).length : Int) + ((k + (digs m).length : Nat) : Int) = 0 := by rw [List.length_append, List.length_replicate]; omega
  rw [hl]
  have := norm_front (k + 1) false (digs m) 0
  rw [List.replicate_succ] at this
  simpa [ys] using this

theorem ys_int (s : Bool) (m : Nat) (h : m ≤ 9007199254740991) : int (ys s m) = (if s = true then -(m : Int) else (m : Int), 0) := by
  unfold ys
  rw [int_print, if_neg (by omega)]
theorem ys_whole (s : Bool) (m : Nat) : whole (ys s m) = true := by
  unfold whole ys
  rw [norm_norm]
  unfold norm
  split
  · rfl
  · have : (core (digs m)).length ≤ (cutL (digs m)).length := cutR_le _
    simp
    omega
theorem ys_bounds (s : Bool) (m : Nat) (h : m < 10 ^ 20) : (ys s m).d.length ≤ 20 ∧ (ys s m).e ≤ 1000000000000 ∧ -1000000000000 ≤ (ys s m).e ∧ (ys s m).d.all dig = true := by
  have hl := digs_length_le 19 m h
  have h3 := cutL_le (digs m)
  have h4 : (core (digs m)).length ≤ (cutL (digs m)).length := cutR_le _
  refine ⟨?_, ?_, ?_, norm_all _ (digs_all m)⟩
  · unfold ys; rw [norm_d]; exact Nat.le_trans (core_le _) hl
  · unfold ys norm
    split
    · decide
    · dsimp only; omega
  · unfold ys norm
    split
    · decide
    · dsimp only; omega
end Go.Proofs.YtcpfooceadgccaaDoor.Dig
end
