/-
  Numbers byte by byte, in plain Lean: what both texts of the layer compute; no program in sight.
-/
import Derived.Test.YthdncmagfgoboaaGreatDoorBP
set_option linter.unusedVariables false
set_option linter.unusedSimpArgs false
namespace Go.Proofs.YthdncmagfgoboaaGreatDoor.Num
open Go
open Go.Proofs.YthdncmagfgoboaaGreatDoor.Dig (Bs)

abbrev far : Nat := 1000000000
abbrev maxW : Nat := 9007199254740991

/-- a number under way, but for its text -/
structure St where
  at_ : Nat
  m : Nat
  zeros : Nat
  behind : Nat
  below : Bool
  e : Nat
deriving DecidableEq

def St.start : St := ⟨0, 0, 0, 0, false, 0⟩

structure St.Okz (n : St) : Prop where
  zeros : n.zeros ≤ 1000000
  behind : n.behind ≤ 1000000
  e : n.e ≤ far
structure St.Ok (n : St) : Prop where
  at_ : n.at_ ≤ 8
  m : n.m ≤ maxW
  zeros : n.zeros ≤ 1000000
  behind : n.behind ≤ 1000000
  e : n.e ≤ far
theorem St.Ok.z {n : St} (h : n.Ok) : n.Okz := ⟨h.zeros, h.behind, h.e⟩
/-- of a text of so many bytes -/
structure St.OkL (n : St) (L : Nat) : Prop where
  at_ : n.at_ ≤ 8
  m : n.m ≤ maxW
  zeros : n.zeros ≤ L
  behind : n.behind ≤ L
  e : n.e ≤ far
theorem St.OkL.ok {n : St} {L : Nat} (h : n.OkL L) (hL : L ≤ 1000000) : n.Ok := ⟨h.at_, h.m, Nat.le_trans h.zeros hL, Nat.le_trans h.behind hL, h.e⟩

/-- where a byte leads -/
def next (at_ x : Nat) : Option Nat :=
  let figure := 48 ≤ x ∧ x ≤ 57
  if at_ = 0 then (if x = 45 then some 1 else if x = 48 then some 2 else if figure then some 3 else none) else
  if at_ = 1 then (if x = 48 then some 2 else if figure then some 3 else none) else
  if at_ = 2 then (if x = 46 then some 4 else if x = 101 ∨ x = 69 then some 6 else none) else
  if at_ = 3 then (if figure then some 3 else if x = 46 then some 4 else if x = 101 ∨ x = 69 then some 6 else none) else
  if at_ = 4 then (if figure then some 5 else none) else
  if at_ = 5 then (if x = 101 ∨ x = 69 then some 6 else if figure then some 5 else none) else
  if at_ = 6 then (if x = 45 ∨ x = 43 then some 7 else if figure then some 8 else none) else
  (if figure then some 8 else none)

/-- one more of the number's digits; none: there are too many -/
def digit (v : Nat) (bh : Bool) (n : St) : Option St :=
  let b := if bh = true then n.behind + 1 else n.behind
  if v = 0 then some { n with behind := b, zeros := if 0 < n.m ∨ bh = true then n.zeros + 1 else n.zeros } else
  if n.m = 0 then some { n with behind := b, m := v, zeros := 0 } else
  if n.m * 10 ^ (n.zeros + 1) + v ≤ maxW then some { n with behind := b, m := n.m * 10 ^ (n.zeros + 1) + v, zeros := 0 } else none

def least (n : St) : Int := (n.behind : Int) - n.zeros

/-- how many noughts it may have behind its last digit that is none; with so many steps -/
def mostN : Nat → Nat → Nat
  | 0, _ => 0
  | f + 1, m => if m ≤ 900719925474099 then 1 + mostN f (10 * m) else 0

def most (m : Nat) : Nat := mostN 16 m

/-- do the numbers that begin with some digits (those from low to high) come between a and b -/
def meets : Nat → Nat → Nat → Int → Int → Bool
  | 0, _, _, _, _ => false
  | f + 1, low, high, a, b => if (low : Int) ≤ b then (if a ≤ (high : Int) then true else meets f (10 * low) (10 * high + 9) a b) else false

/-- can an exponent's digits go on to a number from a to b -/
def leads (e : Nat) (begun : Bool) (a b : Int) : Bool :=
  if b < max a 0 then false else
  if begun = false ∨ e = 0 then true else meets 12 e e (max a 0) b

def may (n : St) : Bool :=
  if n.m = 0 ∨ n.at_ < 7 then true else
  if n.below = true then leads n.e (n.at_ == 8) (-(least n + most n.m)) (-(least n)) else leads n.e (n.at_ == 8) (least n) (least n + most n.m)

def stands (n : St) : Bool := decide (least n ≤ if n.below = true then -(n.e : Int) else (n.e : Int))

def why (n : St) : Nat := if stands n = true then 8 else 7

/-- one byte more: the error, or the number under way -/
def push (n : St) (x : Nat) : Except Nat St :=
  match next n.at_ x with
  | none => .error 2
  | some to =>
    let n1 := { n with at_ := to }
    if to = 2 ∨ to = 3 ∨ to = 5 then
      match digit (x - 48) (to == 5) n1 with
      | none => .error (why { n1 with behind := if to = 5 then n1.behind + 1 else n1.behind, zeros := 0 })
      | some n2 => if may n2 = true then .ok n2 else .error (why n2)
    else
      let n2 := if to = 7 then { n1 with below := x == 45 } else if to = 8 then { n1 with e := min (10 * n1.e + (x - 48)) far } else n1
      if may n2 = true then .ok n2 else .error (why n2)

theorem digit_okL {v : Nat} {bh : Bool} {n n' : St} {L : Nat} (h : n.OkL L) (hv : v ≤ 9) (hd : digit v bh n = some n') : n'.OkL (L + 1) := by
  obtain ⟨h1, h2, h3, h4, h5⟩ := h
  unfold digit at hd
  have hb : (if bh = true then n.behind + 1 else n.behind) ≤ L + 1 := by split <;> omega
  simp only at hd
  split at hd
  · injection hd with hd; subst hd
    exact ⟨h1, h2, by dsimp only; split <;> omega, hb, h5⟩
  · split at hd
    · injection hd with hd; subst hd
      exact ⟨h1, by unfold maxW; dsimp only; omega, Nat.zero_le _, hb, h5⟩
    · split at hd
      · injection hd with hd; subst hd
        rename_i hm
        exact ⟨h1, hm, Nat.zero_le _, hb, h5⟩
      · cases hd

def fin (n2 : St) : Except Nat St := if may n2 = true then .ok n2 else .error (why n2)
def setA (n : St) (x : Nat) : St := { n with at_ := x }
def setM (n : St) (x : Nat) : St := { n with m := x }
def setZ (n : St) (x : Nat) : St := { n with zeros := x }
def setB (n : St) (x : Nat) : St := { n with behind := x }
def setW (n : St) (x : Bool) : St := { n with below := x }
def setE (n : St) (x : Nat) : St := { n with e := x }
theorem setZ_self (n : St) (z : Nat) (h : n.zeros = z) : setZ n z = n := by subst h; rfl
theorem setM_m (n : St) (M : Nat) : (setM n M).m = M := rfl
theorem setM_zeros (n : St) (M : Nat) : (setM n M).zeros = n.zeros := rfl
def digB (n : St) (bh : Bool) : St := { n with behind := if bh = true then n.behind + 1 else n.behind }


section
variable {n n2 : St} {x p : Nat}
theorem push_digit_yes (hn : next n.at_ x = some p) (hp : p = 2 ∨ p = 3 ∨ p = 5) (hd : digit (x - 48) (p == 5) (setA n p) = some n2) : push n x = fin n2 := by
  unfold push
  rw [hn]
  simp only [if_pos hp]
  unfold setA at hd
  rw [hd]
  rfl
theorem push_digit_no (hn : next n.at_ x = some p) (hp : p = 2 ∨ p = 3 ∨ p = 5) (hd : digit (x - 48) (p == 5) (setA n p) = none) (M Z : Nat) : push n x = .error (why (setZ (setZ (setM (digB (setA n p) (p == 5)) M) Z) 0)) := by
  unfold push
  rw [hn]
  simp only [if_pos hp]
  unfold setA at hd
  rw [hd]
  rcases hp with rfl | rfl | rfl <;> rfl
theorem push_sign (hn : next n.at_ x = some 7) : push n x = fin (setW (setA n 7) (x == 45)) := by
  unfold push
  rw [hn]
  rfl
theorem push_power (hn : next n.at_ x = some 8) : push n x = fin (setE (setA n 8) (min (10 * n.e + (x - 48)) far)) := by
  unfold push
  rw [hn]
  rfl
theorem push_other (hn : next n.at_ x = some p) (hp : p = 0 ∨ p = 1 ∨ p = 4 ∨ p = 6) : push n x = fin (setA n p) := by
  unfold push
  rw [hn]
  rcases hp with rfl | rfl | rfl | rfl <;> rfl
end

theorem mostN_le : ∀ f m, mostN f m ≤ f
  | 0, _ => Nat.le_refl _
  | f + 1, m => by
    unfold mostN
    split
    · have := mostN_le f (10 * m); omega
    · omega
theorem most_le (m : Nat) : most m ≤ 16 := mostN_le 16 m

theorem next_le (at_ x to : Nat) (h : next at_ x = some to) : to ≤ 8 := by
  unfold next at h
  simp only at h
  repeat' split at h
  all_goals first | (injection h with h; first | omega | (constructor <;> omega)) | (simp at h)

/-- which bytes lead where -/
theorem next_fig (at_ x to : Nat) (h : next at_ x = some to) (ht : to = 2 ∨ to = 3 ∨ to = 5 ∨ to = 8) : 48 ≤ x ∧ x ≤ 57 := by
  unfold next at h
  simp only at h
  repeat' split at h
  all_goals first | assumption | (simp at h; done) | (simp at h; omega)
end Go.Proofs.YthdncmagfgoboaaGreatDoor.Num
