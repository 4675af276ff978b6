/-
  Numbers as digits, in plain Lean: what both texts of the layer compute, over lists of bytes; no program in sight.
-/
import Derived.Lib.SlTrimSet
import Derived.Lib.Strings
import Derived.Lib.Bytealg
set_option linter.unusedVariables false
set_option linter.unusedSimpArgs false
namespace Go.Proofs.YtcpfooceadgccaaDoor.Dig
open Go

abbrev Bs := List UInt8

/-- is it a digit? -/
def dig (b : UInt8) : Bool := decide (48 ≤ b.toNat) && decide (b.toNat ≤ 57)

structure Dec where
  neg : Bool
  d : Bs
  e : Int
deriving DecidableEq

def zero : Dec := ⟨false, [], 0⟩

def cutL (l : Bs) : Bs := l.dropWhile (· == 48)
def cutR (l : Bs) : Bs := (l.reverse.dropWhile (· == 48)).reverse
def core (l : Bs) : Bs := cutR (cutL l)

def norm (x : Dec) : Dec :=
  if core x.d = [] then zero else ⟨x.neg, core x.d, x.e + (((cutL x.d).length : Int) - ((core x.d).length : Int))⟩

/-- how many digits a text begins with -/
def run (l : Bs) : Nat := (l.takeWhile dig).length

/-- one more digit of an exponent -/
def expo (n : Nat) (b : UInt8) : Nat := min (10 * n + (b.toNat - 48)) 1000000000

/-- an exponent's digits -/
def expDigits (u : Bs) : Option Nat := if u = [] ∨ u.all dig = false then none else some (u.foldl expo 0)

/-- what stands behind a number's digits -/
def readExp : Bs → Option Int
  | [] => some 0
  | c :: t =>
    if (c == 101 || c == 69) = true then
      (if t.head? = some 45 then (expDigits t.tail).map (fun n => -(n : Int))
       else if t.head? = some 43 then (expDigits t.tail).map (fun n => (n : Int))
       else (expDigits t).map (fun n => (n : Int)))
    else none

/-- behind the sign -/
def readBody (neg : Bool) (t : Bs) : Option Dec :=
  if run t = 0 ∨ (1 < run t ∧ t.head? = some 48) then none else
    if (t.drop (run t)).head? = some 46 then
      (if run (t.drop (run t + 1)) = 0 then none else
        (readExp (t.drop (run t + 1 + run (t.drop (run t + 1))))).map fun e =>
          norm ⟨neg, t.take (run t) ++ (t.drop (run t + 1)).take (run (t.drop (run t + 1))), -(run (t.drop (run t + 1)) : Int) + e⟩)
    else (readExp (t.drop (run t))).map fun e => norm ⟨neg, t.take (run t), e⟩

def read (s : Bs) : Option Dec := if s.head? = some 45 then readBody true s.tail else readBody false s

/-- the number of digits -/
def val (l : Bs) : Nat := l.foldl (fun n b => 10 * n + (b.toNat - 48)) 0

def size (a b : Dec) : Int :=
  if (a.d.length : Int) + a.e < b.d.length + b.e then -1 else
  if (b.d.length : Int) + b.e < a.d.length + a.e then 1 else Lib.compareBytes a.d b.d

def cmpN (x y : Dec) : Int :=
  if x.d = [] ∧ y.d = [] then 0 else
  if (x.d = [] ∧ y.neg = true) ∨ (y.d = [] ∧ x.neg = false) then 1 else
  if x.d = [] ∨ y.d = [] then -1 else
  if x.neg ≠ y.neg ∧ x.neg = true then -1 else
  if x.neg ≠ y.neg then 1 else
  if x.neg = true then size y x else size x y

def cmp (a b : Dec) : Int := cmpN (norm a) (norm b)

def whole (x : Dec) : Bool := decide (0 ≤ (norm x).e)

def intN (y : Dec) : Int × Int :=
  if y.e < 0 then (0, 7) else
  if 16 < (y.d.length : Int) + y.e then (0, 8) else
  if 9007199254740991 < val y.d * 10 ^ y.e.toNat then (0, 8) else
  (if y.neg = true then -((val y.d * 10 ^ y.e.toNat : Nat) : Int) else ((val y.d * 10 ^ y.e.toNat : Nat) : Int), 0)

def int (x : Dec) : Int × Int := intN (norm x)

/-- a digit's byte -/
def fig (k : Nat) : UInt8 := UInt8.ofNat (48 + k)

def digs (n : Nat) : Bs := if n < 10 then [fig n] else digs (n / 10) ++ [fig (n % 10)]

def print (n : Int) : Bs := if n < 0 then 45 :: digs n.natAbs else digs n.natAbs

def check (x : Dec) : Bool := x.d.all dig && decide (-1000000000 ≤ x.e) && decide (x.e ≤ 1000000000)

-- laws

theorem dropWhile_len (p : UInt8 → Bool) (l : Bs) : (l.dropWhile p).length = l.length - (l.takeWhile p).length := by
  have := congrArg List.length (List.takeWhile_append_dropWhile (p := p) (l := l))
  rw [List.length_append] at this
  omega

theorem takeWhile_le (p : UInt8 → Bool) (l : Bs) : (l.takeWhile p).length ≤ l.length := by
  have := congrArg List.length (List.takeWhile_append_dropWhile (p := p) (l := l))
  rw [List.length_append] at this
  omega

theorem run_le (l : Bs) : run l ≤ l.length := takeWhile_le _ _

theorem cutset (b : UInt8) : ([48, 49, 50, 51, 52, 53, 54, 55, 56, 57] : Bs).contains b = dig b := by
  have key : ∀ c : UInt8, (b == c) = decide (b.toNat = c.toNat) := fun c => by
    rw [Bool.eq_iff_iff, beq_iff_eq, decide_eq_true_eq]
    exact ⟨fun e => e ▸ rfl, fun e => UInt8.toNat_inj.1 e⟩
  simp only [List.contains, List.elem, key, dig]
  have := b.toNat_lt
  rw [Bool.eq_iff_iff]
  simp only [Bool.and_eq_true, decide_eq_true_eq]
  constructor
  · intro hh
    repeat' split at hh
    all_goals first | (simp at *; omega) | (simp at hh)
  · intro hh
    repeat' split
    all_goals first | rfl | (simp at *; omega)

theorem trimLeft_digits (l : Bs) : Lib.trimLeftS l [48, 49, 50, 51, 52, 53, 54, 55, 56, 57] = l.dropWhile dig := by
  unfold Lib.trimLeftS
  congr 1
  funext b
  exact cutset b

theorem run_eq (l : Bs) : l.length - (Lib.trimLeftS l [48, 49, 50, 51, 52, 53, 54, 55, 56, 57]).length = run l := by
  rw [trimLeft_digits, dropWhile_len]
  have := takeWhile_le dig l
  unfold run
  omega

theorem cutL_eq (l : Bs) : Lib.trimLeftS l [48] = cutL l := by
  rw [Lib.trimLeftS_one]
  rfl

theorem dropWhile_nil_iff (p : UInt8 → Bool) (l : Bs) : l.dropWhile p = [] ↔ l.all p = true := by
  induction l with
  | nil => simp
  | cons b l ih =>
    rw [List.dropWhile_cons, List.all_cons]
    cases hb : p b <;> simp [hb, ih]

theorem trim_check (l : Bs) : (Lib.trimS l [48, 49, 50, 51, 52, 53, 54, 55, 56, 57] = []) ↔ l.all dig = true := by
  have e : (fun b => ([48, 49, 50, 51, 52, 53, 54, 55, 56, 57] : Bs).contains b) = dig := funext cutset
  unfold Lib.trimS Lib.trimLeftS Lib.trimRightS
  rw [e, dropWhile_nil_iff, List.all_reverse]
  -- what is left at the front is all digits; so all was
  constructor
  · intro hh
    have := (dropWhile_nil_iff dig l.reverse)
    rw [List.all_reverse] at this
    rw [← this]
    rw [List.all_eq_true] at hh
    cases hd : l.reverse.dropWhile dig with
    | nil => rfl
    | cons b m =>
      exfalso
      have hb := List.head?_dropWhile_not dig l.reverse
      have : b ∈ l.reverse.dropWhile dig := by rw [hd]; exact List.mem_cons_self
      have := hh b this
      simp only [hd, List.head?_cons] at hb
      rw [hb] at this
      exact Bool.false_ne_true this
  · intro hh
    rw [List.all_eq_true] at hh ⊢
    intro b hb
    have := (List.dropWhile_sublist dig).subset hb
    exact hh b (by simpa using this)

end Go.Proofs.YtcpfooceadgccaaDoor.Dig
