/- One of the texts that lead to the theorem lexPlays.proved: the conditions stand in each theorem. -/
import Derived.Test.YthdncmagfgoboaaGreatDoorP15
import Derived.Test.YthdncmagfgoboaaGreatDoorP2
import Derived.Test.YthdncmagfgoboaaGreatDoorP10
import Derived.Test.YthdncmagfgoboaaGreatDoorP8
set_option linter.unusedSimpArgs false
set_option linter.unusedVariables false
section
namespace Go.Proofs.YthdncmagfgoboaaGreatDoor.Num
open Go
open Go.Proofs.YthdncmagfgoboaaGreatDoor.Dig (Bs run dig val core cutL cutR norm)
structure Nz (C : Bs) : Prop where
 d : C.all dig = true
 ne : C ≠ []
 hd : C.head? ≠ some 48
 lt : C.getLast? ≠ some 48
theorem Nz.cutL {C : Bs} (h : Nz C) : cutL C = C := Dig.cutL_of_head C h.hd
theorem Nz.cutR {C : Bs} (h : Nz C) : cutR C = C := by
 obtain ⟨t, c, rfl⟩ : ∃ t c, C = t ++ [c] := ⟨C.dropLast, C.getLast h.ne, (List.dropLast_concat_getLast h.ne).symm⟩
 exact Dig.cutR_of_last t c (by have := h.lt; simpa using this)
theorem Nz.core {C : Bs} (h : Nz C) : core C = C := by unfold Dig.core; rw [h.cutL, h.cutR]
theorem Nz.norm {C : Bs} (h : Nz C) (s : Bool) (e : Int) : norm ⟨s, C, e⟩ = ⟨s, C, e⟩ := by
 unfold Dig.norm
 rw [h.core, if_neg h.ne, h.cutL]
 congr 1
 show e + ((C.length : Int) - C.length) = e
 omega
theorem Nz.pos {C : Bs} (h : Nz C) : 10 ^ (C.length - 1) ≤ val C := Dig.val_ge C h.ne h.d h.hd
theorem Nz.pos1 {C : Bs} (h : Nz C) : 1 ≤ val C := Nat.le_trans (Nat.pow_pos (by omega)) h.pos
theorem sE (s : Bool) (k : Nat) (e : Int) : norm ⟨s, List.replicate k 48, e⟩ = Dig.zero := by
 have := Dig.norm_front k s [] e
 rw [List.append_nil] at this
 rw [this]
 rfl
theorem lJ {C : Bs} (h : Nz C) (s : Bool) (a z : Nat) (e : Int) : norm ⟨s, List.replicate a 48 ++ (C ++ List.replicate z 48), e⟩ = ⟨s, C, e + z⟩ := by
 rw [Dig.norm_front, Dig.norm_back, h.norm]
def MZ (D : Bs) (fl m z : Nat) : Prop :=
 (D = List.replicate D.length 48 ∧ m = 0 ∧ z = fl) ∨ (∃ a C, D = List.replicate a 48 ++ (C ++ List.replicate z 48) ∧ Nz C ∧ m = val C)
structure Tells (n : St) (t : T) : Prop where
 at_ : n.at_ = t.at_
 behind : n.behind = t.f.length
 below : n.below = decide (t.sg = [45])
 e : n.e = t.x.foldl Dig.expo 0
 mz : MZ (t.d ++ t.f) t.f.length n.m n.zeros
 m : n.m ≤ maxW
theorem sG {C : Bs} (h : Nz C) (k : Nat) : (Dig.int ⟨false, C, k⟩).2 = 0 ↔ val C * 10 ^ k ≤ maxW := by
 unfold Dig.int
 rw [h.norm]
 unfold Dig.intN
 rw [if_neg (by simp)]
 simp only [Int.toNat_natCast]
 by_cases h1 : 16 < (C.length : Int) + k
 · rw [if_pos h1]
   have h2 := h.pos
   have h3 : 10 ^ (C.length - 1) * 10 ^ k ≤ val C * 10 ^ k := Nat.mul_le_mul_right _ h2
   rw [← Nat.pow_add] at h3
   have h4 : 10 ^ 16 ≤ 10 ^ (C.length - 1 + k) := Nat.pow_le_pow_right (by omega) (by omega)
   constructor
   · intro e; simp at e
   · intro e; unfold maxW at e; omega
 · rw [if_neg h1]
   unfold maxW
   by_cases h2 : 9007199254740991 < val C * 10 ^ k
   · rw [if_pos h2]
     constructor
     · intro e; simp at e
     · intro e; omega
   · rw [if_neg h2]
     exact ⟨fun _ => by omega, fun _ => rfl⟩
theorem mZ {C : Bs} (h : Nz C) : ∀ (f i : Nat), i + f = 16 → val C * 10 ^ i ≤ maxW → moreN (f + 1) C i = i + mostN f (val C * 10 ^ i)
 | 0, i, hi, hv => by
  unfold moreN mostN
  rw [if_neg (by omega)]
  omega
 | f + 1, i, hi, hv => by
  unfold moreN
  rw [if_pos (by omega)]
  have e : ((i : Int) + 1) = ((i + 1 : Nat) : Int) := by omega
  have hk := sG h (i + 1)
  have hp : val C * 10 ^ (i + 1) = 10 * (val C * 10 ^ i) := by rw [Nat.pow_succ, ← Nat.mul_assoc, Nat.mul_comm]
  rw [e]
  by_cases h1 : (Dig.int ⟨false, C, ((i + 1 : Nat) : Int)⟩).2 = 0
  · have h2 := hk.1 h1
    rw [if_pos h1, mZ h f (i + 1) (by omega) h2]
    conv => rhs; unfold mostN
    rw [hp] at h2
    unfold maxW at h2
    rw [if_pos (by omega), ← hp]
    omega
  · have h2 : ¬ val C * 10 ^ (i + 1) ≤ maxW := fun e => h1 (hk.2 e)
    rw [if_neg h1]
    unfold mostN
    rw [hp] at h2
    unfold maxW at h2
    rw [if_neg (by omega)]
    rfl
theorem more_eq {C : Bs} (h : Nz C) (hm : val C ≤ maxW) : moreN 17 C 0 = most (val C) := by
 have := mZ h 16 0 (by omega) (by simpa using hm)
 unfold most
 simpa using this
theorem nK (x : Bs) (h : x.all dig = true) : val x = 0 ↔ cutL x = [] := by
 rw [← Dig.val_cutL]
 constructor
 · intro e
   rcases Decidable.em (cutL x = []) with h1 | h1
   · exact h1
   · have h2 := Dig.val_ge (cutL x) h1 (by
      rw [List.all_eq_true] at h ⊢
      exact fun b hb => h b (Dig.cutL_sub x b hb)) (Dig.cutL_head x)
     have h3 : 0 < 10 ^ ((cutL x).length - 1) := Nat.pow_pos (by omega)
     omega
 · intro e; rw [e]; rfl
theorem nD (x : Bs) (a b : Int) (hx : x.all dig = true) (hab : a ≤ b) (hb : b ≤ 10000000) : has x a b = leads (min (val x) far) (x != []) a b := by
 have hv := Dig.val_cutL x
 have hz := nK x hx
 have hd : (cutL x).all dig = true := by
  rw [List.all_eq_true] at hx ⊢
  exact fun c hc => hx c (Dig.cutL_sub x c hc)
 unfold has leads
 dsimp only
 by_cases h0 : b < max a 0
 · rw [if_pos h0]
   have hb0 : b < 0 := by omega
   split
   · exact decide_eq_false (by omega)
   · split
     · rfl
     · exact uD _ _ hb0 _ _ _
 · rw [if_neg h0]
   by_cases h1 : cutL x = []
   · have e1 : val x = 0 := hz.2 h1
     rw [if_pos h1, if_pos (Or.inr (by rw [e1]; rfl)), decide_eq_true (by omega)]
   · have e1 : ¬ val x = 0 := fun e => h1 (hz.1 e)
     have e2 : x ≠ [] := fun e => by rw [e] at h1; exact h1 rfl
     have e3 : ¬ ((x != []) = false ∨ min (val x) far = 0) := by
      unfold far
      simp only [bne_eq_false_iff_eq]
      rintro (e | e)
      · exact e2 e
      · omega
     rw [if_neg h1, if_neg e3, hv]
     by_cases h9 : 9 < (cutL x).length
     · rw [if_pos h9]
       have h2 := Dig.val_ge (cutL x) h1 hd (Dig.cutL_head x)
       have h3 : 10 ^ 9 ≤ 10 ^ ((cutL x).length - 1) := Nat.pow_le_pow_right (by omega) (by omega)
       have e4 : min (val x) far = 1000000000 := by unfold far; omega
       rw [e4]
       unfold meets
       rw [if_neg (by omega)]
     · rw [if_neg h9]
       have h2 := Dig.val_lt (cutL x) hd
       have h3 : 10 ^ (cutL x).length ≤ 10 ^ 9 := Nat.pow_le_pow_right (by omega) (by omega)
       have e4 : min (val x) far = val x := by unfold far; omega
       rw [e4]
theorem nz_one {c : UInt8} (hc : dig c = true) (h : c ≠ 48) : Nz [c] := ⟨by simp [hc], by simp, by simpa using h, by simpa using h⟩
theorem sU {C : Bs} (h : Nz C) (z : Nat) {c : UInt8} (hc : dig c = true) (h0 : c ≠ 48) : Nz (C ++ (List.replicate z 48 ++ [c])) := by
 refine ⟨?_, by simp, ?_, ?_⟩
 · refine iI h.d (iI ?_ (by simp [hc]))
   rw [List.all_eq_true]
   intro b hb
   rw [List.eq_of_mem_replicate hb]
   rfl
 · cases hC : C with
   | nil => exact absurd hC h.ne
   | cons a r => have := h.hd; rw [hC] at this; simpa using this
 · rw [← List.append_assoc, List.getLast?_append]
   simpa using h0
theorem pD (C : Bs) (z : Nat) (c : UInt8) : val (C ++ (List.replicate z 48 ++ [c])) = val C * 10 ^ (z + 1) + (c.toNat - 48) := by
 rw [← List.append_assoc, Dig.val_snoc, Dig.val_back, Nat.pow_succ, Nat.mul_comm 10, Nat.mul_assoc]
theorem uQ (n n2 : St) (D : Bs) (fl : Nat) (c : UInt8) (bh : Bool) (h : MZ D fl n.m n.zeros) (hm : n.m ≤ maxW) (hc : dig c = true) (hd : digit (c.toNat - 48) bh n = some n2) :
 MZ (D ++ [c]) (if bh = true then fl + 1 else fl) n2.m n2.zeros ∧ n2.m ≤ maxW ∧ n2.behind = (if bh = true then n.behind + 1 else n.behind) ∧ n2.at_ = n.at_ ∧ n2.below = n.below ∧ n2.e = n.e := by
 obtain ⟨hc1, hc2⟩ := Dig.dig_le c hc
 unfold digit at hd
 dsimp only at hd
 by_cases h0 : c.toNat - 48 = 0
 · have hc0 : c = 48 := fO (k := 48) (by decide) (by omega)
   rw [if_pos h0] at hd
   injection hd with hd
   subst hd
   refine ⟨?_, hm, rfl, rfl, rfl, rfl⟩
   dsimp only
   rcases h with ⟨h1, h2, h3⟩ | ⟨a, C, h1, h2, h3⟩
   · left
     refine ⟨?_, h2, ?_⟩
     · rw [hc0, List.length_append]
       conv => lhs; rw [h1]
       rw [← List.replicate_succ']
       rfl
     · cases bh <;> simp [h2, h3]
   · right
     have := h2.pos1
     refine ⟨a, C, ?_, h2, h3⟩
     rw [if_pos (Or.inl (by omega)), h1, hc0, List.replicate_succ', List.append_assoc, List.append_assoc]
 · have hc0 : c ≠ 48 := fun e => h0 (by rw [e]; rfl)
   rw [if_neg h0] at hd
   rcases h with ⟨h1, h2, h3⟩ | ⟨a, C, h1, h2, h3⟩
   · rw [if_pos h2] at hd
     injection hd with hd
     subst hd
     refine ⟨.inr ⟨D.length, [c], ?_, nz_one hc hc0, ?_⟩, by unfold maxW; dsimp only; omega, rfl, rfl, rfl, rfl⟩
     · conv => lhs; rw [h1]
       simp
     · simp [val, Dig.val]
   · have := h2.pos1
     rw [if_neg (by omega)] at hd
     split at hd
     · rename_i hmx
       injection hd with hd
       subst hd
       refine ⟨.inr ⟨a, C ++ (List.replicate n.zeros 48 ++ [c]), ?_, sU h2 n.zeros hc hc0, ?_⟩, hmx, rfl, rfl, rfl, rfl⟩
       · rw [h1]; simp
       · rw [pD, ← h3]
     · cases hd
theorem gV (n : St) (D : Bs) (fl : Nat) (c : UInt8) (bh : Bool) (h : MZ D fl n.m n.zeros) (hc : dig c = true) (hd : digit (c.toNat - 48) bh n = none) :
 ∃ a C, D ++ [c] = List.replicate a 48 ++ C ∧ Nz C ∧ maxW < val C := by
 unfold digit at hd
 dsimp only at hd
 by_cases h0 : c.toNat - 48 = 0
 · rw [if_pos h0] at hd; cases hd
 · have hc0 : c ≠ 48 := fun e => h0 (by rw [e]; rfl)
   rw [if_neg h0] at hd
   rcases h with ⟨h1, h2, h3⟩ | ⟨a, C, h1, h2, h3⟩
   · rw [if_pos h2] at hd; cases hd
   · have := h2.pos1
     rw [if_neg (by omega)] at hd
     split at hd
     · cases hd
     · rename_i hmx
       refine ⟨a, C ++ (List.replicate n.zeros 48 ++ [c]), ?_, sU h2 n.zeros hc hc0, ?_⟩
       · rw [h1]; simp
       · rw [pD, ← h3]; omega
theorem xD (x : Bs) (h : x.all dig = true) : x.foldl Dig.expo 0 = min (val x) far := by
 cases hx : x with
 | nil => rfl
 | cons a r =>
  have := Dig.expDigits_all x (by rw [hx]; simp) h
  unfold Dig.expDigits at this
  rw [if_neg (by rw [h, hx]; simp)] at this
  injection this with this
  rw [hx] at this
  exact this
theorem at_7 (t : T) (v : t.V) : t.at_ < 7 ↔ (t.ex = false ∨ (t.sgn = 0 ∧ t.x = [])) := by
 have hs := v.sg
 unfold T.at_ T.sgn
 cases t.ex with
 | false =>
  simp
  repeat' split
  all_goals omega
 | true =>
  rcases hs with h | h | h <;> by_cases hx : t.x = [] <;> simp [h, hx]
theorem at_8 (t : T) : (t.ex = true ∧ t.x ≠ []) ↔ t.at_ = 8 := by
 unfold T.at_
 cases t.ex with
 | false =>
  simp
  repeat' split
  all_goals omega
 | true =>
  by_cases hx : t.x = []
  · simp [hx]; split <;> omega
  · simp [hx]
theorem uE (n : St) (t : T) (v : t.V) (h : Tells n t) (hl : t.d.length + t.f.length ≤ 100000) : mayP t.parts = may n := by
 obtain ⟨h1, h2, h3, h4, h5, h6⟩ := h
 have h7 := at_7 t v
 have h8 := at_8 t
 show mayP ⟨t.d ++ t.f, t.f.length, t.ex, t.sgn, t.x⟩ = may n
 unfold mayP may
 dsimp only
 rcases h5 with ⟨a1, a2, a3⟩ | ⟨a, C, a1, a2, a3⟩
 · have e : norm ⟨false, t.d ++ t.f, -(t.f.length : Int)⟩ = Dig.zero := by rw [a1]; exact sE _ _ _
   rw [e, if_pos (show Dig.zero.d = [] from rfl), if_pos (Or.inl a2)]
 · have e : norm ⟨false, t.d ++ t.f, -(t.f.length : Int)⟩ = ⟨false, C, -(t.f.length : Int) + n.zeros⟩ := by rw [a1]; exact lJ a2 _ _ _ _
   have hp := a2.pos1
   have i0 := (sG a2 0).2 (by rw [Nat.pow_zero, Nat.mul_one, ← a3]; exact h6)
   rw [e]
   dsimp only
   rw [if_neg a2.ne, if_neg (show ¬ (Dig.int ⟨false, C, 0⟩).2 ≠ 0 from fun q => q i0)]
   by_cases hlt : t.at_ < 7
   · rw [if_pos (h7.1 hlt), if_pos (Or.inr (by rw [h1]; exact hlt))]
   · have hn7 : ¬ (t.ex = false ∨ (t.sgn = 0 ∧ t.x = [])) := fun q => hlt (h7.2 q)
     have hn8 : ¬ (n.m = 0 ∨ n.at_ < 7) := by rw [h1]; omega
     rw [if_neg hn7, if_neg hn8, more_eq a2 (by rw [← a3]; exact h6), ← a3]
     have hL : (-(t.f.length : Int) + n.zeros) = -(least n) := by unfold least; omega
     have hzl : n.zeros ≤ 100000 := by
      have := congrArg List.length a1
      simp at this
      omega
     have hM := most_le n.m
     have hlb : -100000 ≤ least n ∧ least n ≤ 100000 := by unfold least; omega
     have hE : n.e = min (val t.x) far := by rw [h4]; exact xD t.x v.x
     have hX : (n.at_ == 8) = (t.x != []) := by
      have hex : t.ex = true := by
       cases hh : t.ex with
       | true => rfl
       | false => exact absurd (Or.inl hh) hn7
      rw [h1, Bool.eq_iff_iff]
      simp only [beq_iff_eq, bne_iff_ne]
      exact ⟨fun q => (h8.2 q).2, fun q => h8.1 ⟨hex, q⟩⟩
     rw [hL, hX, hE]
     by_cases hs : t.sg = [45]
     · have : t.sgn = 45 := by unfold T.sgn; rw [if_pos hs]
       rw [if_pos this, h3, decide_eq_true hs, if_pos rfl]
       have := nD t.x (-(least n) - most n.m) (-(least n)) v.x (by omega) (by omega)
       rw [this]
       congr 1
       omega
     · have : ¬ t.sgn = 45 := by unfold T.sgn; rw [if_neg hs]; split <;> omega
       rw [if_neg this, h3, decide_eq_false hs, if_neg (by simp)]
       have := nD t.x (-(-(least n))) (-(-(least n)) + most n.m) v.x (by omega) (by omega)
       rw [this]
       congr 1 <;> omega
theorem wZ (d u : Bs) (h : d ≠ []) : (d ++ u).head? = d.head? := by cases d with | nil => exact absurd rfl h | cons a t => rfl
theorem iD (eb : UInt8) (u : Bs) : Dig.readExp (eb :: u) = if (eb == 101 || eb == 69) = true then (if u.head? = some 45 then (Dig.expDigits u.tail).map (fun n => -(n : Int)) else if u.head? = some 43 then (Dig.expDigits u.tail).map (fun n => (n : Int)) else (Dig.expDigits u).map (fun n => (n : Int))) else none := rfl
theorem oF (s : Bool) (d u : Bs) (hd : d.all dig = true) (h0 : d ≠ []) (hl : ¬ (1 < d.length ∧ d.head? = some 48)) (hu : ∀ b, u.head? = some b → dig b = false) (hp : ¬ u.head? = some 46) :
 Dig.readBody s (d ++ u) = (Dig.readExp u).map fun e => norm ⟨s, d, e⟩ := by
 have hr := iR d u hd hu
 have h1 := List.length_pos_iff.2 h0
 have hh : (d ++ u).head? = d.head? := by cases d with | nil => exact absurd rfl h0 | cons a t => rfl
 unfold Dig.readBody
 have n1 : ¬ (d.length = 0 ∨ (1 < d.length ∧ d.head? = some 48)) := by
  rintro (e | e)
  · omega
  · exact hl e
 rw [hr, hh, List.take_left, List.drop_left, if_neg n1, if_neg hp]
theorem pV (s : Bool) (d f u : Bs) (hd : d.all dig = true) (h0 : d ≠ []) (hl : ¬ (1 < d.length ∧ d.head? = some 48)) (hf : f.all dig = true) (f0 : f ≠ []) (hu : ∀ b, u.head? = some b → dig b = false) :
 Dig.readBody s (d ++ 46 :: (f ++ u)) = (Dig.readExp u).map fun e => norm ⟨s, d ++ f, -(f.length : Int) + e⟩ := by
 have hr := iR d (46 :: (f ++ u)) hd (fun b hb => by injection hb with hb; subst hb; rfl)
 have hr2 := iR f u hf hu
 have h1 := List.length_pos_iff.2 h0
 have h2 := List.length_pos_iff.2 f0
 have hh : (d ++ 46 :: (f ++ u)).head? = d.head? := by cases d with | nil => exact absurd rfl h0 | cons a t => rfl
 have e1 : (d ++ 46 :: (f ++ u)).drop (d.length + 1) = f ++ u := by rw [List.drop_append]; simp
 have e2 : (d ++ 46 :: (f ++ u)).drop (d.length + 1 + f.length) = u := by rw [← List.drop_drop, e1, List.drop_left]
 unfold Dig.readBody
 have n1 : ¬ (d.length = 0 ∨ (1 < d.length ∧ d.head? = some 48)) := by
  rintro (e | e)
  · omega
  · exact hl e
 rw [hr, hh, List.take_left, List.drop_left, e1, hr2, e2, List.take_left, if_neg n1, if_pos (by rfl), if_neg (by omega)]
theorem pT (neg : Bool) (t : Bs) (h : ¬ t.head? = some 45) : Dig.read ((if neg = true then [45] else []) ++ t) = Dig.readBody neg t := by
 unfold Dig.read
 cases neg with
 | true => rw [show ((if true = true then [45] else []) ++ t : Bs) = 45 :: t from rfl, if_pos (show (45 :: t : Bs).head? = some 45 from rfl)]; rfl
 | false => rw [show ((if false = true then [45] else []) ++ t : Bs) = t from rfl, if_neg h]
def T.exv (t : T) : Int := if t.ex = true then (if t.sg = [45] then -((t.x.foldl Dig.expo 0 : Nat) : Int) else ((t.x.foldl Dig.expo 0 : Nat) : Int)) else 0
theorem rT {eb : UInt8} (h : eb = 101 ∨ eb = 69) (sg x : Bs) (hs : sg = [] ∨ sg = [45] ∨ sg = [43]) (hx : x.all dig = true) (x0 : x ≠ []) :
 Dig.readExp (eb :: (sg ++ x)) = some (if sg = [45] then -((x.foldl Dig.expo 0 : Nat) : Int) else ((x.foldl Dig.expo 0 : Nat) : Int)) := by
 have hE : Dig.expDigits x = some (x.foldl Dig.expo 0) := by
  unfold Dig.expDigits
  rw [if_neg]
  rintro (e | e)
  · exact x0 e
  · rw [hx] at e; cases e
 have he : (eb == 101 || eb == 69) = true := by rcases h with rfl | rfl <;> rfl
 rw [iD, if_pos he]
 rcases hs with rfl | rfl | rfl
 · rw [List.nil_append, if_neg (fY hx 45 rfl), if_neg (fY hx 43 rfl), hE]; rfl
 · simp [hE]
 · simp [hE]
theorem readExp_none {eb : UInt8} (h : eb = 101 ∨ eb = 69) (sg : Bs) (hs : sg = [] ∨ sg = [45] ∨ sg = [43]) : Dig.readExp (eb :: sg) = none := by
 have he : (eb == 101 || eb == 69) = true := by rcases h with rfl | rfl <;> rfl
 rw [iD, if_pos he]
 rcases hs with rfl | rfl | rfl <;> rfl
def T.full (t : T) : Prop := t.at_ = 2 ∨ t.at_ = 3 ∨ t.at_ = 5 ∨ t.at_ = 8
theorem man_u (t : T) (v : t.V) (hd : t.d ≠ []) (u : Bs) : ¬ (t.man ++ u).head? = some 45 := by
 unfold T.man
 cases h : t.d with
 | nil => exact absurd h hd
 | cons a b =>
  have := v.d
  rw [h] at this
  intro e
  have e2 : a = 45 := by simpa using e
  subst e2
  rw [List.all_cons] at this
  simp [Dig.dig] at this
theorem iC (t : T) (v : t.V) (hd : t.d ≠ []) (hf : t.pt = true → t.f ≠ []) (u : Bs) (hu : ∀ b, u.head? = some b → dig b = false) (hp : ¬ u.head? = some 46) :
 Dig.read ((if t.neg = true then [45] else []) ++ (t.man ++ u)) = (Dig.readExp u).map fun e => norm ⟨t.neg, t.d ++ t.f, -(t.f.length : Int) + e⟩ := by
 rw [pT _ _ (man_u t v hd u)]
 unfold T.man
 cases hpt : t.pt with
 | false =>
  have hf0 := v.np hpt
  have := oF t.neg t.d u v.d hd v.ld hu hp
  simp only [if_neg (show ¬ (false = true) by simp), List.append_nil, hf0]
  rw [this]
  congr 1
  funext e
  congr 2
  simp
 | true =>
  have := pV t.neg t.d t.f u v.d hd v.ld v.f (hf hpt) hu
  simp only [if_true, List.append_assoc, List.cons_append]
  exact this
theorem pC (t : T) (v : t.V) : t.full ↔ (t.d ≠ [] ∧ (t.pt = true → t.f ≠ []) ∧ (t.ex = true → t.x ≠ [])) := by
 have h1 := v.np
 have h2 := v.xd
 unfold T.full T.at_
 cases hex : t.ex with
 | true =>
  obtain ⟨w1, w2, w3⟩ := h2 hex
  by_cases hx : t.x = []
  · simp [hx]; split <;> omega
  · simp [hx, w1]; exact w2
 | false =>
  cases hpt : t.pt with
  | true =>
   have w1 := v.pd hpt
   by_cases hf : t.f = [] <;> simp [hf, w1]
  | false =>
   by_cases hd : t.d = []
   · simp [hd]; split <;> omega
   · simp [hd]
     by_cases h48 : t.d.head? = some 48 <;> simp [h48]
theorem mS (t : T) (v : t.V) (h : t.full) : Dig.read t.text = some (norm ⟨t.neg, t.d ++ t.f, -(t.f.length : Int) + t.exv⟩) := by
 obtain ⟨h1, h2, h3⟩ := (pC t v).1 h
 unfold T.text T.tail T.exv
 cases hex : t.ex with
 | false =>
  have := iC t v h1 h2 [] (by simp) (by simp)
  simp only [if_neg (show ¬ (false = true) by simp)]
  rw [this]
  rfl
 | true =>
  obtain ⟨w1, w2, w3⟩ := v.xd hex
  have := iC t v h1 h2 (t.eb :: (t.sg ++ t.x)) (iX w3 _) (e_ne w3 _)
  simp only [if_true]
  rw [this, rT w3 _ _ v.sg v.x (h3 hex)]
  rfl
theorem vV (t : T) (v : t.V) (h : ¬ t.full) : Dig.read t.text = none := by
 rw [pC t v] at h
 unfold T.text T.tail
 by_cases hd : t.d = []
 · have hp : t.pt = false := by
    cases hp : t.pt with
    | false => rfl
    | true => exact absurd hd (v.pd hp)
   have hx : t.ex = false := by
    cases hx : t.ex with
    | false => rfl
    | true => exact absurd hd (v.xd hx).1
   unfold T.man
   rw [hd, hp, hx]
   cases t.neg <;> rfl
 · cases hex : t.ex with
   | true =>
    obtain ⟨w1, w2, w3⟩ := v.xd hex
    have hx : t.x = [] := by
     rcases Decidable.em (t.x = []) with e | e
     · exact e
     · exact (h ⟨hd, w2, fun _ => e⟩).elim
    have := iC t v hd w2 (t.eb :: (t.sg ++ t.x)) (iX w3 _) (e_ne w3 _)
    simp only [if_true]
    rw [this, hx, List.append_nil, readExp_none w3 _ v.sg]
    rfl
   | false =>
    have hp : t.pt = true := by
     cases hp : t.pt with
     | true => rfl
     | false => exact (h ⟨hd, (fun e => by rw [hp] at e; cases e), (fun e => by rw [hex] at e; cases e)⟩).elim
    have hf : t.f = [] := by
     rcases Decidable.em (t.f = []) with e | e
     · exact e
     · exact (h ⟨hd, fun _ => e, (fun e => by rw [hex] at e; cases e)⟩).elim
    simp only [if_neg (show ¬ (false = true) by simp), List.append_nil]
    have h45 := man_u t v hd []
    rw [List.append_nil] at h45
    rw [pT _ _ h45]
    unfold T.man
    rw [hp, hf, if_pos rfl]
    have hr := iR t.d [46] v.d (fun b hb => by injection hb with hb; subst hb; rfl)
    have h1 := List.length_pos_iff.2 hd
    unfold Dig.readBody
    have e1 : (t.d ++ [46]).drop (t.d.length + 1) = [] := List.drop_eq_nil_of_le (by simp)
    have hh : (t.d ++ [46]).head? = t.d.head? := wZ t.d [46] hd
    have n1 : ¬ (t.d.length = 0 ∨ (1 < t.d.length ∧ t.d.head? = some 48)) := by
     rintro (e | e)
     · omega
     · exact v.ld e
    rw [hr, hh, List.drop_left, e1, if_neg n1, if_pos (by rfl), if_pos (by rfl)]
theorem rI (l : Bs) (c : UInt8) (h : dig c = true) : standsL (l ++ [c]) = l ++ [c] := by
 unfold standsL
 rw [List.reverse_append, List.reverse_singleton, List.singleton_append, List.dropWhile_cons, h]
 simp
theorem eE (l : Bs) (c : UInt8) (h : dig c = false) : standsL (l ++ [c]) = standsL l := by
 unfold standsL
 rw [List.reverse_append, List.reverse_singleton, List.singleton_append, List.dropWhile_cons, h]
 simp
theorem eF (l m : Bs) (hm : m.all dig = true) (h0 : m ≠ []) : standsL (l ++ m) = l ++ m := by
 obtain ⟨t, c, rfl⟩ : ∃ t c, m = t ++ [c] := ⟨m.dropLast, m.getLast h0, (List.dropLast_concat_getLast h0).symm⟩
 rw [← List.append_assoc]
 refine rI _ c ?_
 rw [List.all_append] at hm
 simp at hm
 exact hm.2
theorem mH {D C : Bs} {a z : Nat} (hD : D = List.replicate a 48 ++ (C ++ List.replicate z 48)) (hC : Nz C) (s : Bool) (e : Int) : Dig.whole (norm ⟨s, D, e⟩) = decide (0 ≤ e + z) := by
 unfold Dig.whole
 rw [Dig.norm_norm, hD, lJ hC]
def rwhy (s : Bs) : Nat := if Dig.whole ((Dig.read (standsL s)).getD Dig.zero) = true then 8 else 7
theorem kR (s : Bs) (x : UInt8) : rpush s x = match cutO (s ++ [x]) with
 | none => .error 2
 | some p => if mayP p = true then .ok (s ++ [x]) else .error (rwhy (s ++ [x])) := by
 unfold rpush rwhy
 cases cutO (s ++ [x]) with
 | none => rfl
 | some p =>
  dsimp only
  split
  · rfl
  · split <;> rfl
theorem mL (t : T) (v : t.V) (h : t.full) (hend : standsL t.text = t.text) {C : Bs} {a z : Nat} (hD : t.d ++ t.f = List.replicate a 48 ++ (C ++ List.replicate z 48)) (hC : Nz C) :
 rwhy t.text = if (t.f.length : Int) - z ≤ t.exv then 8 else 7 := by
 unfold rwhy
 rw [hend, mS t v h, Option.getD_some, mH hD hC]
 by_cases h1 : (t.f.length : Int) - z ≤ t.exv
 · rw [if_pos h1, if_pos (by rw [decide_eq_true_eq]; omega)]
 · rw [if_neg h1, if_neg (by rw [decide_eq_true_eq]; omega)]
theorem jD (t : T) (v : t.V) (h : t.full) : standsL t.text = t.text := by
 obtain ⟨h1, h2, h3⟩ := (pC t v).1 h
 unfold T.text T.tail T.man
 cases hex : t.ex with
 | true =>
  have := eF ((if t.neg = true then [45] else []) ++ ((t.d ++ if t.pt = true then 46 :: t.f else []) ++ (t.eb :: t.sg))) t.x v.x (h3 hex)
  simpa using this
 | false =>
  cases hpt : t.pt with
  | true =>
   have := eF ((if t.neg = true then [45] else []) ++ (t.d ++ [46])) t.f v.f (h2 hpt)
   simpa using this
  | false =>
   have := eF (if t.neg = true then [45] else []) t.d v.d h1
   simpa using this
theorem xH {eb : UInt8} (h : eb = 101 ∨ eb = 69) : dig eb = false := by rcases h with rfl | rfl <;> rfl
theorem tK (t : T) (v : t.V) (h : t.at_ = 7) {C : Bs} {a z : Nat} (hD : t.d ++ t.f = List.replicate a 48 ++ (C ++ List.replicate z 48)) (hC : Nz C) :
 rwhy t.text = if (t.f.length : Int) - z ≤ 0 then 8 else 7 := by
 have hex : t.ex = true := by
  cases hh : t.ex with
  | true => rfl
  | false => unfold T.at_ at h; rw [hh] at h; simp at h; repeat' split at h <;> (try omega)
 have hx : t.x = [] := by
  rcases Decidable.em (t.x = []) with e | e
  · exact e
  · have := (at_8 t).1 ⟨hex, e⟩; omega
 obtain ⟨w1, w2, w3⟩ := v.xd hex
 have hs : standsL t.text = (if t.neg = true then [45] else []) ++ (t.man ++ []) := by
  have hm : standsL ((if t.neg = true then [45] else []) ++ t.man) = (if t.neg = true then [45] else []) ++ t.man := by
   unfold T.man
   cases hpt : t.pt with
   | true =>
    have := eF ((if t.neg = true then [45] else []) ++ (t.d ++ [46])) t.f v.f (w2 hpt)
    simpa using this
   | false =>
    have := eF (if t.neg = true then [45] else []) t.d v.d w1
    simpa using this
  unfold T.text T.tail
  rw [if_pos hex, hx, List.append_nil, List.append_nil]
  have e0 : (if t.neg = true then [45] else []) ++ (t.man ++ t.eb :: t.sg) = ((if t.neg = true then [45] else []) ++ t.man ++ [t.eb]) ++ t.sg := by simp
  rw [e0]
  rcases v.sg with e | e | e
  · rw [e, List.append_nil, eE _ _ (xH w3), hm]
  · rw [e, eE _ 45 rfl, eE _ _ (xH w3), hm]
  · rw [e, eE _ 43 rfl, eE _ _ (xH w3), hm]
 unfold rwhy
 have e1 : ((Dig.readExp []).map fun e => norm ⟨t.neg, t.d ++ t.f, -(t.f.length : Int) + e⟩) = some (norm ⟨t.neg, t.d ++ t.f, -(t.f.length : Int) + 0⟩) := rfl
 rw [hs, iC t v w1 w2 [] (by simp) (by simp), e1, Option.getD_some, mH hD hC]
 by_cases h1 : (t.f.length : Int) - z ≤ 0
 · rw [if_pos h1, if_pos (by rw [decide_eq_true_eq]; omega)]
 · rw [if_neg h1, if_neg (by rw [decide_eq_true_eq]; omega)]
theorem wN (n : St) (h : n.m = 0) : may n = true := by unfold may; rw [if_pos (Or.inl h)]
theorem wP (n : St) (h : n.at_ < 7) : may n = true := by unfold may; rw [if_pos (Or.inr h)]
theorem fin_ok (n : St) (h : may n = true) : fin n = .ok n := by unfold fin; rw [if_pos h]
theorem fin_err (n : St) (h : may n = false) : fin n = .error (why n) := by unfold fin; rw [if_neg (by rw [h]; simp)]
def Sim (n : St) (t : T) (c : UInt8) : Prop :=
 (∃ k, push n c.toNat = .error k ∧ rpush t.text c = .error k) ∨
 (∃ n' t', push n c.toNat = .ok n' ∧ rpush t.text c = .ok (t.text ++ [c]) ∧ t'.V ∧ t'.text = t.text ++ [c] ∧ Tells n' t')
theorem hY {n n2 : St} {t t' : T} {c : UInt8} (hl : t'.d.length + t'.f.length ≤ 100000) (v' : t'.V) (e' : t'.text = t.text ++ [c]) (hp : push n c.toNat = fin n2) (h2 : Tells n2 t') (hw : may n2 = false → rwhy t'.text = why n2) : Sim n t c := by
 have hm := uE n2 t' v' h2 hl
 have hr : rpush t.text c = if mayP t'.parts = true then .ok (t.text ++ [c]) else .error (rwhy (t.text ++ [c])) := by
  rw [kR, ← e', qZ t' v']
 rw [hm, ← e'] at hr
 cases hmay : may n2 with
 | true =>
  right
  refine ⟨n2, t', by rw [hp, fin_ok n2 hmay], ?_, v', e', h2⟩
  rw [hr, hmay, if_pos rfl, e']
 | false =>
  left
  refine ⟨why n2, by rw [hp, fin_err n2 hmay], ?_⟩
  rw [hr, hmay, if_neg (by simp), hw hmay]
theorem mX {n : St} {D : Bs} {fl : Nat} (h : MZ D fl n.m n.zeros) (hm : may n = false) : ∃ a C, D = List.replicate a 48 ++ (C ++ List.replicate n.zeros 48) ∧ Nz C := by
 rcases h with ⟨_, h2, _⟩ | ⟨a, C, h1, h2, _⟩
 · rw [wN n h2] at hm; cases hm
 · exact ⟨a, C, h1, h2⟩
theorem wQ {d : Bs} {fl : Nat} {ex : Bool} {sg : Nat} {x C : Bs} {a : Nat} (hD : d = List.replicate a 48 ++ C) (hC : Nz C) (hb : maxW < val C) : mayP ⟨d, fl, ex, sg, x⟩ = false := by
 have hD' : d = List.replicate a 48 ++ (C ++ List.replicate 0 48) := by rw [hD]; simp
 have e : norm ⟨false, d, -(fl : Int)⟩ = ⟨false, C, -(fl : Int) + (0 : Nat)⟩ := by rw [hD']; exact lJ hC _ _ _ _
 have i0 : ¬ (Dig.int ⟨false, C, 0⟩).2 = 0 := fun q => by
  have := (sG hC 0).1 q
  rw [Nat.pow_zero, Nat.mul_one] at this
  omega
 unfold mayP
 dsimp only
 rw [e]
 dsimp only
 rw [if_neg hC.ne, if_pos i0]
theorem uH (t : T) (v : t.V) : t.d.length + t.f.length ≤ t.text.length := by
 unfold T.text T.man
 rw [List.length_append, List.length_append, List.length_append]
 cases hp : t.pt with
 | true => simp; omega
 | false =>
  rw [v.np hp]
  simp
  omega
theorem rD (n : St) (t : T) (hb : n.below = decide (t.sg = [45])) (he : n.e = t.x.foldl Dig.expo 0) (hf : n.behind = t.f.length) (hx : t.ex = false → t.x = []) :
 why n = if (t.f.length : Int) - n.zeros ≤ t.exv then 8 else 7 := by
 have e1 : (if n.below = true then -(n.e : Int) else (n.e : Int)) = t.exv := by
  unfold T.exv
  rw [hb, he]
  cases hex : t.ex with
  | true =>
   rw [if_pos rfl]
   by_cases hs : t.sg = [45] <;> simp [hs]
  | false =>
   rw [hx hex]
   simp
 unfold why stands least
 rw [e1, hf]
 by_cases h1 : (t.f.length : Int) - n.zeros ≤ t.exv
 · rw [decide_eq_true h1, if_pos rfl, if_pos h1]
 · rw [decide_eq_false h1, if_neg (by simp), if_neg h1]
theorem sim (n : St) (t : T) (v : t.V) (h : Tells n t) (c : UInt8) (hl : t.text.length ≤ 90000) : Sim n t c := by
 obtain ⟨h1, h2, h3, h4, h5, h6⟩ := h
 cases hn : next t.at_ c.toNat with
 | none =>
  left
  refine ⟨2, by unfold push; rw [h1, hn], ?_⟩
  rw [kR, cut_bad t v c hn]
 | some p =>
  obtain ⟨v', e', a'⟩ := step_ok t v c p hn
  have hfig := next_fig _ _ _ hn
  have hp8 := next_le _ _ _ hn
  have hlen := uH _ v'
  rw [e', List.length_append] at hlen
  have hl' : (t.step c p).d.length + (t.step c p).f.length ≤ 100000 := by simp at hlen; omega
  have hn' : next n.at_ c.toNat = some p := by rw [h1]; exact hn
  have dcase : ∀ bh : Bool, (p = 2 ∨ p = 3 ∨ p = 5) → (p == 5) = bh → (t.step c p).d ++ (t.step c p).f = (t.d ++ t.f) ++ [c] → (t.step c p).f.length = (if bh = true then t.f.length + 1 else t.f.length) → (t.step c p).ex = false → (t.step c p).sg = t.sg → (t.step c p).x = t.x → (t.step c p).full → Sim n t c := by
   intro bh hp hbh eD ef eex esg ex hfull
   have hdg := fJ (hfig (by omega))
   have hx0 : (t.step c p).x = [] := (v'.nx eex).2
   cases hD : digit (c.toNat - 48) bh (setA n p) with
   | some n2 =>
    obtain ⟨q1, q2, q3, q4, q5, q6⟩ := uQ (setA n p) n2 (t.d ++ t.f) t.f.length c bh h5 h6 hdg hD
    refine hY hl' v' e' (push_digit_yes hn' hp (by rw [hbh]; exact hD)) ⟨?_, ?_, ?_, ?_, ?_, q2⟩ (fun q => ?_)
    · rw [q4, a']; rfl
    · rw [q3, ef, ← h2]; rfl
    · rw [q5, esg, ← h3]; rfl
    · rw [q6, ex, ← h4]; rfl
    · rw [eD, ef]; exact q1
    · rw [wP n2 (by rw [q4]; show p < 7; omega)] at q; cases q
   | none =>
    obtain ⟨a, C, b1, b2, b3⟩ := gV (setA n p) (t.d ++ t.f) t.f.length c bh h5 hdg hD
    left
    have hpush := push_digit_no hn' hp (by rw [hbh]; exact hD) 0 0
    refine ⟨_, hpush, ?_⟩
    have hmay : mayP (t.step c p).parts = false := by
     unfold T.parts
     exact wQ (by rw [eD]; exact b1) b2 b3
    have hw := mL (t.step c p) v' hfull (jD _ v' hfull) (a := a) (z := 0) (by rw [eD, b1]; simp) b2
    rw [kR, ← e', qZ _ v']
    dsimp only
    rw [hmay, if_neg (by simp), hw]
    rw [rD _ (t.step c p) (by rw [esg, ← h3]; rfl) (by rw [ex, ← h4]; rfl) (by rw [ef, ← h2, hbh]; rfl) (fun _ => hx0)]
    rfl
  have hat := h1
  obtain ⟨v1, v2, v3, v4, v5, v6, v7, v8, v9⟩ := v
  have hcase : p = 2 ∨ p = 3 ∨ p = 5 ∨ p = 7 ∨ p = 8 ∨ p = 6 ∨ (p = 0 ∨ p = 1 ∨ p = 4) := by omega
  have hf23 : p = 2 ∨ p = 3 → t.f = [] ∧ t.ex = false := by
   intro hp
   have h7 : (t.step c p).at_ = 2 ∨ (t.step c p).at_ = 3 := by rw [a']; omega
   have hex : t.ex = false ∧ t.pt = false := by
    unfold T.step T.at_ at h7
    rcases hp with rfl | rfl <;> simp at h7 <;> (cases hex : t.ex <;> cases hpt : t.pt <;> rw [hex, hpt] at h7 <;> simp at h7 ⊢) <;> (repeat' split at h7) <;> omega
   exact ⟨v5 hex.2, hex.1⟩
  rcases hcase with rfl | rfl | rfl | rfl | rfl | rfl | hp
  · obtain ⟨q1, q2⟩ := hf23 (.inl rfl)
    exact dcase false (by omega) rfl (by simp [T.step, q1]) rfl (by simpa [T.step] using q2) rfl rfl (.inl a')
  · obtain ⟨q1, q2⟩ := hf23 (.inr rfl)
    exact dcase false (by omega) rfl (by simp [T.step, q1]) rfl (by simpa [T.step] using q2) rfl rfl (.inr (.inl a'))
  · have q2 : t.ex = false := by
     have h7 := a'
     unfold T.step T.at_ at h7
     cases hex : t.ex with
     | false => rfl
     | true => simp [hex] at h7; repeat' split at h7 <;> (try omega)
    exact dcase true (by omega) rfl (by simp [T.step]) (by simp [T.step]) (by simpa [T.step] using q2) rfl rfl (.inr (.inr (.inl a')))
  · -- the exponent's sign
    have hx0 : t.x = [] := by
     have h7 := a'
     unfold T.step T.at_ at h7
     rcases Decidable.em (t.x = []) with e | e
     · exact e
     · simp [e] at h7
       repeat' split at h7
       all_goals omega
    have hb : (c.toNat == 45) = decide ((t.step c 7).sg = [45]) := by
     show (c.toNat == 45) = decide ([c] = ([45] : Bs))
     rw [Bool.eq_iff_iff, beq_iff_eq, decide_eq_true_eq]
     exact ⟨fun e => by rw [fO (k := 45) (by decide) e]; rfl, fun e => by injection e with e; rw [e]; rfl⟩
    have hT : Tells (setW (setA n 7) (c.toNat == 45)) (t.step c 7) := ⟨a'.symm, h2, hb, h4, h5, h6⟩
    refine hY hl' v' e' (push_sign hn') hT (fun hm => ?_)
    obtain ⟨a, C, b1, b2⟩ := mX hT.mz hm
    rw [tK _ v' a' b1 b2, rD _ (t.step c 7) hT.below hT.e hT.behind (fun _ => hx0)]
    have : (t.step c 7).exv = 0 := by
     unfold T.exv
     have : (t.step c 7).x = [] := hx0
     rw [this]
     split
     · split <;> rfl
     · rfl
    rw [this]
  · -- one more of the exponent's digits
    have hT : Tells (setE (setA n 8) (min (10 * n.e + (c.toNat - 48)) far)) (t.step c 8) := ⟨a'.symm, h2, h3, by
     show min (10 * n.e + (c.toNat - 48)) far = (t.x ++ [c]).foldl Dig.expo 0
     rw [List.foldl_append, ← h4]
     rfl, h5, h6⟩
    refine hY hl' v' e' (push_power hn') hT (fun hm => ?_)
    obtain ⟨a, C, b1, b2⟩ := mX hT.mz hm
    have hfull : (t.step c 8).full := .inr (.inr (.inr a'))
    have hex : (t.step c 8).ex = true := ((at_8 _).2 a').1
    rw [mL _ v' hfull (jD _ v' hfull) b1 b2, rD _ (t.step c 8) hT.below hT.e hT.behind (fun e => by rw [hex] at e; cases e)]
  · -- the e
    have hT : Tells (setA n 6) (t.step c 6) := ⟨a'.symm, h2, h3, h4, h5, h6⟩
    exact hY hl' v' e' (push_other hn' (by omega)) hT (fun hm => by rw [wP _ (show (6 : Nat) < 7 by omega)] at hm; cases hm)
  · have hT : Tells (setA n p) (t.step c p) := by
     rcases hp with rfl | rfl | rfl
     · exfalso
       unfold next at hn
       simp only at hn
       repeat' split at hn
       all_goals first | (injection hn with hn; omega) | cases hn
     · exact ⟨a'.symm, h2, h3, h4, h5, h6⟩
     · exact ⟨a'.symm, h2, h3, h4, h5, h6⟩
    exact hY hl' v' e' (push_other hn' (by omega)) hT (fun hm => by rw [wP _ (show p < 7 by omega)] at hm; cases hm)
def T.start : T := ⟨false, [], false, [], false, 0, [], []⟩
theorem start_V : T.start.V := ⟨rfl, rfl, rfl, by simp [T.start], fun _ => rfl, fun _ => ⟨rfl, rfl⟩, fun e => by simp [T.start] at e, fun e => by simp [T.start] at e, .inl rfl⟩
theorem start_tells : Tells St.start T.start := ⟨rfl, rfl, rfl, rfl, .inl ⟨rfl, rfl, rfl⟩, by decide⟩
def pend (n : St) (s : Bs) : Int × Int := if n.at_ = 2 ∨ n.at_ = 3 ∨ n.at_ = 5 ∨ n.at_ = 8 then Dig.int ((Dig.read s).getD Dig.zero) else (0, 3)
theorem pend_eq (n : St) (t : T) (v : t.V) (h : Tells n t) : pend n t.text = rend t.text := by
 unfold pend rend
 rw [h.at_]
 by_cases hf : t.full
 · rw [if_pos (show t.at_ = 2 ∨ t.at_ = 3 ∨ t.at_ = 5 ∨ t.at_ = 8 from hf), mS t v hf]
   rfl
 · rw [if_neg (show ¬ (t.at_ = 2 ∨ t.at_ = 3 ∨ t.at_ = 5 ∨ t.at_ = 8) from hf), vV t v hf]
end Go.Proofs.YthdncmagfgoboaaGreatDoor.Num
end

section
namespace Go.Proofs.YthdncmagfgoboaaGreatDoor
open Go.RowKit
set_option maxRecDepth 100000
set_option maxHeartbeats 4000000
theorem sD (w : World) : Calls Tryz.prog 84 #[] w fun e w' => (∃ p, e = .returned (.pointer (some ⟨p, 0, none⟩)) ∧ w.heap.size ≤ p ∧ NumF w' p [] Num.St.start none (.slice none 0 0)) ∧ Touch [] w w' := by
 refine aA Tryz.func84 rfl ?_
 intro Q_ hQ_
 simp only [Tryz.ntmps84, ents_, Nat.reduceAdd, Nat.reduceSub]
 go_wp2
 refine hQ_.ret (results_tmp rfl _ _ _) rfl ?_
 exact ⟨⟨_, rfl, Nat.le_refl _, ⟨aZ _ _, SlAt.nil _ _ _, by simp⟩⟩, (Touch.refl _ _).alloc _⟩
theorem iZ {w : World} {l : List UInt8} {g : Option Nat} {A : Option Addr} {C : Nat} (h : SlAt w 5 1 (.slice A l.length C) l.length (bM l) g) :
 (convert 22 9 (.slice A l.length C)).run Tryz.prog w = .ok (.string (str l)) w := by
 rcases h.shape with ⟨e, h0, h1, h2⟩ | ⟨k, cap, cur, e, hg, hk, _⟩
 · injection e with e1 e2 e3
   have hl : l = [] := List.eq_nil_of_length_eq_zero h0
   subst e1; subst hl
   exact run_convert_bytes_nil w 22 5 Tryz.underlying22 Tryz.underlying5 0 C 9 Tryz.underlying9
 · injection e with e1 e2 e3
   subst e1
   have := run_convert_bytes_back (P := Tryz.prog) w 22 9 5 ⟨k, 0, none⟩ C l Tryz.underlying22 Tryz.underlying5 Tryz.underlying9 (fun j hj => by
    have hc := h.cell hg (j := j) (u := .int .u8 (l[j]).toNat) (by unfold bM; simp [hj])
    have e : (⟨k, 0, none⟩ : Addr).add j = ⟨k, j, none⟩ := by unfold Addr.add; split <;> simp_all
    rw [e]
    exact hc)
   exact this
theorem fF (b : Nat) (l : List UInt8) (n : Num.St) (g : Option Nat) (tv : Value) (w : World) (hF : NumF w b l n g tv) (hl : l.length ≤ 100000) (ok : n.at_ ≤ 8) :
 Calls Tryz.prog 34 #[.pointer (some ⟨b, 0, none⟩)] w fun e w' => e = .returned (.tuple #[.int .i64 (Num.pend n l).1, .int .i64 (Num.pend n l).2]) ∧ Touch [] w w' := by
 obtain ⟨hN, hs, hg⟩ := hF
 obtain ⟨A, C, rfl, hC1, hC2, _⟩ := hs.form
 have hcv := iZ hs
 unfold bH at hN
 have ⟨c0,c1,c2,c3,c4,c5,c6⟩ := cs7 hN
 have ⟨f0,f1,f2,f3,f4,f5,f6⟩ := fs7 hN
 have lb := aB hN
 try simp [NumC] at c0 c1 c2 c3 c4 c5 c6
 by_cases hat : n.at_ = 2 ∨ n.at_ = 3 ∨ n.at_ = 5 ∨ n.at_ = 8
 · have he : Box (Num.pend n l = Dig.int ((Dig.read l).getD Dig.zero)) := ⟨by unfold Num.pend; rw [if_pos hat]⟩
   have hrd := fun w => tV l w (by omega)
   have hwb := Num.read_bounds l (by omega)
   have hdd : ((Dig.read l).getD Dig.zero).d.all Dig.dig = true := by
    cases h : Dig.read l with
    | none => rfl
    | some d => exact Num.read_digits l d h (by omega)
   generalize (Dig.read l).getD Dig.zero = y at *
   generalize (Dig.read l).isSome = k at *
   obtain ⟨hw1, hw2, hw3⟩ := hwb
   have hin := fun w => wA y w hw1 hw2 hw3 hdd
   generalize Dig.int y = I at hin he
   obtain ⟨i1, i2⟩ := I
   obtain ⟨ys, yd, ye⟩ := y
   simp only [dec] at hin hrd
   clear hw1 hw2 hw3 hdd hN hs
   rcases hat with h | h | h | h <;> rw [h] at c1
   all_goals
    refine aA Tryz.func34 rfl ?_
    intro Q_ hQ_
    simp only [Tryz.ntmps34, ents_, Nat.reduceAdd, Nat.reduceSub]
    go_wp2_with fail
    refine (hrd _).mono ?_
    rintro e w1 ⟨rfl, ht1⟩
    try go_simp
    go_wp2_with fail
    refine (hin _).mono ?_
    rintro e w2 ⟨rfl, ht2⟩
    try go_simp
    go_wp2
    refine hQ_.ret (results_tmp2 rfl _ _ _) rfl ?_
    exact ⟨by rw [he.out]; rfl, (ht1.alloc _).trans ht2⟩
 · have he : Box (Num.pend n l = (0, 3)) := ⟨by unfold Num.pend; rw [if_neg hat]⟩
   have e2 : ((n.at_ : Int) == 2) = false := by simp; omega
   have e3 : ((n.at_ : Int) == 3) = false := by simp; omega
   have e5 : ((n.at_ : Int) == 5) = false := by simp; omega
   have e8 : ((n.at_ : Int) == 8) = false := by simp; omega
   clear hN hs hat
   refine aA Tryz.func34 rfl ?_
   intro Q_ hQ_
   simp only [Tryz.ntmps34, ents_, Nat.reduceAdd, Nat.reduceSub]
   go_wp2
   refine hQ_.ret (results_tmp2 rfl _ _ _) rfl ?_
   exact ⟨by rw [he.out]; rfl, Touch.refl _ _⟩
end Go.Proofs.YthdncmagfgoboaaGreatDoor
end

section
namespace Go.Proofs.YthdncmagfgoboaaGreatDoor
open Go.RowKit
set_option maxRecDepth 100000
set_option maxHeartbeats 4000000
namespace Num
open Go.Proofs.YthdncmagfgoboaaGreatDoor.Dig (Bs)
theorem vA (n : St) : why n = 7 ∨ why n = 8 := by unfold why; split <;> simp
theorem uL {n : St} {r : Except Nat St} (h : r = fin n) : (r = .ok n) ∨ ∃ k, r = .error k ∧ (k = 2 ∨ k = 7 ∨ k = 8) := by
 subst h
 unfold fin
 split
 · exact .inl rfl
 · exact .inr ⟨_, rfl, .inr (vA n)⟩
theorem push_ways (n : St) (x L : Nat) (hx : x < 256) (h : n.OkL L) : (∃ n', push n x = .ok n' ∧ n'.OkL (L + 1)) ∨ ∃ k, push n x = .error k ∧ (k = 2 ∨ k = 7 ∨ k = 8) := by
 have use : ∀ n2, push n x = fin n2 → n2.OkL (L + 1) → (∃ n', push n x = .ok n' ∧ n'.OkL (L + 1)) ∨ ∃ k, push n x = .error k ∧ (k = 2 ∨ k = 7 ∨ k = 8) := fun n2 h1 h2 => by
  rcases uL h1 with h3 | h3
  · exact .inl ⟨n2, h3, h2⟩
  · exact .inr h3
 cases hn : next n.at_ x with
 | none => exact .inr ⟨2, by unfold push; rw [hn], .inl rfl⟩
 | some p =>
  have hp8 := next_le _ _ _ hn
  have hfig := next_fig _ _ _ hn
  have hcase : (p = 2 ∨ p = 3 ∨ p = 5) ∨ p = 7 ∨ p = 8 ∨ (p = 0 ∨ p = 1 ∨ p = 4 ∨ p = 6) := by omega
  have hA : (setA n p).OkL L := ⟨hp8, h.m, h.zeros, h.behind, h.e⟩
  rcases hcase with hp | rfl | rfl | hp
  · cases hD : digit (x - 48) (p == 5) (setA n p) with
    | some n2 => exact use n2 (push_digit_yes hn hp hD) (digit_okL hA (by have := hfig (by omega); omega) hD)
    | none => exact .inr ⟨_, push_digit_no hn hp hD 0 0, .inr (vA _)⟩
  · exact use _ (push_sign hn) ⟨hp8, h.m, Nat.le_succ_of_le h.zeros, Nat.le_succ_of_le h.behind, h.e⟩
  · exact use _ (push_power hn) ⟨hp8, h.m, Nat.le_succ_of_le h.zeros, Nat.le_succ_of_le h.behind, Nat.min_le_right _ _⟩
  · exact use _ (push_other hn hp) ⟨hp8, h.m, Nat.le_succ_of_le h.zeros, Nat.le_succ_of_le h.behind, h.e⟩
theorem start_ok : St.start.OkL 0 := ⟨by decide, by decide, Nat.le_refl _, Nat.le_refl _, by decide⟩
end Num
theorem NumF.keep {w w' : World} {F : List Nat} {b : Nat} {l : List UInt8} {n : Num.St} {g : Option Nat} {tv : Value} (h : NumF w b l n g tv) (ht : Touch F w w') (hb : b ∉ F) (hg : ∀ k, g = some k → k ∉ F) : NumF w' b l n g tv :=
 ⟨ht.keep h.n hb, h.s.keep ht hg, h.g⟩
theorem NumF.lt {w : World} {b : Nat} {l : List UInt8} {n : Num.St} {g : Option Nat} {tv : Value} (h : NumF w b l n g tv) : b < w.heap.size := aB h.n
end Go.Proofs.YthdncmagfgoboaaGreatDoor
end
