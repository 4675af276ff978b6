/- One of the texts that lead to the theorem lexPlays.proved: the conditions stand in each theorem. -/
import Derived.Test.YthdncmagfgoboaaGreatDoorP13
import Derived.Test.YthdncmagfgoboaaGreatDoorP14
import Derived.Test.YthdncmagfgoboaaGreatDoorP7
import Derived.Test.YthdncmagfgoboaaGreatDoorP8
import Derived.Deep.RegionHeld3
import Derived.Test.YthdncmagfgoboaaGreatDoorP2
import Derived.Deep.DeepCutAuto
import Derived.Outline
set_option linter.unusedSimpArgs false
set_option linter.unusedVariables false
section
namespace Go.Proofs.YthdncmagfgoboaaGreatDoor
open Go.RowKit
open Go.Proofs.YthdncmagfgoboaaGreatDoorW.PrintWords (mx mn bt)
set_option maxRecDepth 10000
namespace Num
open Go.Proofs.YthdncmagfgoboaaGreatDoor.Dig (Bs run dig)
def cutX (d : Bs) (m : Nat) (t : Bs) : Option Parts :=
 if t.head? = some 45 then (if t.tail.all dig = true then some ⟨d, m, true, 45, t.tail⟩ else none) else
 if t.head? = some 43 then (if t.tail.all dig = true then some ⟨d, m, true, 43, t.tail⟩ else none) else
 if t.all dig = true then some ⟨d, m, true, 0, t⟩ else none
def cutE (d : Bs) (m : Nat) (u : Bs) : Option Parts :=
 if u.head? = some 101 ∨ u.head? = some 69 then cutX d m u.tail else none
def cutP (d : Bs) (v : Bs) : Option Parts :=
 if v.drop (run v) = [] then some ⟨d ++ v.take (run v), run v, false, 0, []⟩ else
 if run v = 0 then none else cutE (d ++ v.take (run v)) (run v) (v.drop (run v))
def cutB (t : Bs) : Option Parts :=
 if 1 < run t ∧ t.head? = some 48 then none else
 if t.drop (run t) = [] then some ⟨t.take (run t), 0, false, 0, []⟩ else
 if run t = 0 then none else
 if (t.drop (run t)).head? = some 46 then cutP (t.take (run t)) (t.drop (run t)).tail else cutE (t.take (run t)) 0 (t.drop (run t))
def cutO (s : Bs) : Option Parts := if s.head? = some 45 then cutB s.tail else cutB s
end Num
abbrev CutR := Option (ByteArray × Int × Bool × Int × ByteArray × Bool)
def Says (r : CutR) (o : Option Num.Parts) : Prop :=
 ∃ q : Num.Parts, r = some (str q.d, (q.behind : Int), q.e, (q.sign : Int), str q.x, o.isSome) ∧ ∀ P, o = some P → q = P
theorem iQ {r : CutR} (P : Num.Parts) (h : r = some (str P.d, (P.behind : Int), P.e, (P.sign : Int), str P.x, true)) : Says r (some P) :=
 ⟨P, h, fun _ e => by injection e⟩
theorem eA {r : CutR} (d : List UInt8) (m : Nat) (e : Bool) (sg : Nat) (x : List UInt8) (h : r = some (str d, (m : Int), e, (sg : Int), str x, false)) : Says r none :=
 ⟨⟨d, m, e, sg, x⟩, h, fun _ e => by cases e⟩
theorem cL (l : List UInt8) (i : Nat) (c : UInt8) (h : l[i]? = some c) : bt (str l) (i : Int) = (c.toNat : Int) := by
 rw [pB, List.getD_eq_getElem?_getD, h]; rfl
theorem sY (l : List UInt8) (i n : Nat) : (str l).extract ((i : Int)).toNat (((i + n : Nat) : Int)).toNat = str ((l.drop i).take n) := by
 rw [cW, Int.toNat_natCast, Int.toNat_natCast, Nat.add_sub_cancel_left]
theorem pL (l : List UInt8) (i : Nat) (hi : i + Dig.run (l.drop i) < l.length) : Dig.dig (l[i + Dig.run (l.drop i)]'hi) = false := by
 have h := Dig.run_end (l.drop i)
 rw [List.getElem?_drop] at h
 rcases h with h | ⟨b, hb, h⟩
 · rw [List.getElem?_eq_none_iff] at h; omega
 · rw [List.getElem?_eq_getElem hi] at hb
   injection hb with hb
   rw [hb]
   unfold Dig.dig
   simp
   omega
section
variable (l : List UInt8) (hl : l.length ≤ 1000000)
include hl
theorem dZ (i : Nat) (h : i ≤ l.length) : wrap64 ((i : Int) + 1) = ((i + 1 : Nat) : Int) := by
 rw [cS _ (by omega) (by omega)]; omega
theorem xK (d : List UInt8) (m sg : Nat) (x : List UInt8) : ∀ (f i : Nat), i + f = l.length → ∀ k, f < k →
 Says (XN2.orthoepyref11_cut.l2 k (str l) i (str d) m true sg (str x)) (if (l.drop i).all Dig.dig = true then some ⟨d, m, true, sg, x⟩ else none)
 | f, i, hi, 0, hk => absurd hk (by omega)
 | 0, i, hi, k + 1, hk => by
  simp only [XN2.orthoepyref11_cut.l2]
  have e : l.drop i = [] := List.drop_eq_nil_of_le (by omega)
  rw [e, aR, if_neg (by omega), if_pos (by rfl)]
  exact iQ ⟨d, m, true, sg, x⟩ rfl
 | f + 1, i, hi, k + 1, hk => by
  simp only [XN2.orthoepyref11_cut.l2]
  have hlt : i < l.length := by omega
  have e : l.drop i = l[i] :: l.drop (i + 1) := List.drop_eq_getElem_cons hlt
  have eb := cL l i l[i] (by simp [hlt])
  rw [aR, if_pos (by omega), if_pos (by omega), eb, dZ l hl i (by omega), e, List.all_cons]
  by_cases h1 : (l[i]).toNat < 48
  · have hd : Dig.dig l[i] = false := by unfold Dig.dig; simp; omega
    rw [if_pos (by omega), hd, if_neg (by simp)]
    exact eA d m true sg x rfl
  · rw [if_neg (by omega)]
    by_cases h2 : 57 < (l[i]).toNat
    · have hd : Dig.dig l[i] = false := by unfold Dig.dig; simp; omega
      rw [if_pos (by omega), hd, if_neg (by simp)]
      exact eA d m true sg x rfl
    · have hd : Dig.dig l[i] = true := by unfold Dig.dig; simp; omega
      rw [if_neg (by omega), hd, Bool.true_and]
      exact xK d m sg x f (i + 1) (by omega) k (by omega)
theorem oU (d : List UInt8) (m sg : Nat) (x0 : List UInt8) (i : Nat) (hi : i ≤ l.length) (k : Nat) (hk : l.length + 2 ≤ k) :
 Says (XN2.orthoepyref11_cut.j10 k (str l) i (str d) m true sg (str x0)) (if (l.drop i).all Dig.dig = true then some ⟨d, m, true, sg, l.drop i⟩ else none) := by
 obtain ⟨k, rfl⟩ : ∃ j, k = j + 1 := ⟨k - 1, by omega⟩
 simp only [XN2.orthoepyref11_cut.j10]
 have e : (str l).extract ((i : Int)).toNat (str l).size = str (l.drop i) := by
  rw [cW, aR]
  congr 1
  exact List.take_of_length_le (by simp)
 rw [aR] at *
 rw [if_pos (by omega), if_pos (by omega), e]
 exact xK l hl d m sg (l.drop i) (l.length - i) i (by omega) k (by omega)
theorem cut_j9 (d : List UInt8) (m : Nat) (x0 : List UInt8) (i : Nat) (hi : i ≤ l.length) (k : Nat) (hk : l.length + 3 ≤ k) :
 Says (XN2.orthoepyref11_cut.j9 k (str l) i (decide (l[i]? = some 45 ∨ l[i]? = some 43)) (str d) m true 0 (str x0)) (Num.cutX d m (l.drop i)) := by
 obtain ⟨k, rfl⟩ : ∃ j, k = j + 1 := ⟨k - 1, by omega⟩
 simp only [XN2.orthoepyref11_cut.j9]
 unfold Num.cutX
 rw [List.head?_drop, List.tail_drop]
 by_cases h : l[i]? = some 45 ∨ l[i]? = some 43
 · have hlt : i < l.length := by rcases h with h | h <;> exact (List.getElem?_eq_some_iff.1 h).1
   rw [decide_eq_true h, if_pos rfl, aR, if_pos (by omega), if_pos (by omega), dZ l hl i (by omega)]
   rcases h with h | h
   · rw [if_pos h, cL l i 45 h]
     exact oU l hl d m 45 x0 (i + 1) (by omega) k (by omega)
   · rw [if_neg (by rw [h]; simp), if_pos h, cL l i 43 h]
     exact oU l hl d m 43 x0 (i + 1) (by omega) k (by omega)
 · have h1 : ¬ l[i]? = some 45 := fun e => h (Or.inl e)
   have h2 : ¬ l[i]? = some 43 := fun e => h (Or.inr e)
   rw [decide_eq_false h, if_neg (by simp), if_neg h1, if_neg h2]
   exact oU l hl d m 0 x0 i hi k (by omega)
theorem cut_j8 (d : List UInt8) (m : Nat) (x0 : List UInt8) (i : Nat) (hi : i < l.length) (k : Nat) (hk : l.length + 4 ≤ k) :
 Says (XN2.orthoepyref11_cut.j8 k (str l) i false (str d) m false 0 (str x0)) (Num.cutX d m (l.drop (i + 1))) := by
 obtain ⟨k, rfl⟩ : ∃ j, k = j + 1 := ⟨k - 1, by omega⟩
 simp only [XN2.orthoepyref11_cut.j8]
 have key := cut_j9 l hl d m x0 (i + 1) (by omega) k (by omega)
 rw [if_neg (by simp), dZ l hl i (by omega), aR]
 by_cases hlt : i + 1 < l.length
 · have hc : l[i + 1]? = some (l[i + 1]) := by simp [hlt]
   rw [if_pos (by omega), if_pos (by omega), cL l (i + 1) _ hc]
   rw [hc] at key
   by_cases h1 : l[i + 1] = 45
   · rw [h1] at key
     have e0 : ((l[i + 1]).toNat : Int) = 45 := by rw [h1]; rfl
     rw [if_pos e0]
     simpa using key
   · have e0 : ¬ ((l[i + 1]).toNat : Int) = 45 := fun e => h1 (UInt8.toNat_inj.1 (by show _ = 45; omega))
     have e1 : (((l[i + 1]).toNat : Int) == 43) = decide (l[i + 1] = 43) := by
      rw [Bool.eq_iff_iff, beq_iff_eq, decide_eq_true_eq]
      exact ⟨fun e => UInt8.toNat_inj.1 (by show _ = 43; omega), fun e => by rw [e]; rfl⟩
     rw [if_neg e0, e1]
     simpa [h1] using key
 · rw [if_neg (by omega)]
   rw [List.getElem?_eq_none (by omega)] at key
   simpa using key
theorem xN (d : List UInt8) (m : Nat) (x0 : List UInt8) (i : Nat) (hi : i < l.length) (k : Nat) (hk : l.length + 5 ≤ k) :
 Says (XN2.orthoepyref11_cut.j7 k (str l) i (str d) m false 0 (str x0)) (Num.cutE d m (l.drop i)) := by
 obtain ⟨k, rfl⟩ : ∃ j, k = j + 1 := ⟨k - 1, by omega⟩
 simp only [XN2.orthoepyref11_cut.j7]
 unfold Num.cutE
 have hc : l[i]? = some (l[i]) := by simp [hi]
 have key := cut_j8 l hl d m x0 i hi k (by omega)
 rw [aR, if_pos (by omega), if_pos (by omega), cL l i _ hc, List.head?_drop, List.tail_drop, hc]
 by_cases h1 : l[i] = 101
 · rw [if_pos (by rw [h1]; rfl), if_pos (Or.inl (by rw [h1]))]
   exact key
 · have e0 : ¬ ((l[i]).toNat : Int) = 101 := fun e => h1 (UInt8.toNat_inj.1 (by show _ = 101; omega))
   rw [if_neg e0]
   by_cases h2 : l[i] = 69
   · have e1 : (((l[i]).toNat : Int) != 69) = false := by rw [h2]; rfl
     rw [e1, if_pos (Or.inr (by rw [h2]))]
     exact key
   · have e1 : (((l[i]).toNat : Int) != 69) = true := by
      rw [bne_iff_ne]
      exact fun e => h2 (UInt8.toNat_inj.1 (by show _ = 69; omega))
     rw [e1, if_neg (by simp [h1, h2])]
     obtain ⟨k, rfl⟩ : ∃ j, k = j + 1 := ⟨k - 1, by omega⟩
     simp only [XN2.orthoepyref11_cut.j8]
     exact eA d m false 0 x0 rfl
theorem cut_j6 (d : List UInt8) (i n : Nat) (hd : d.length ≤ 1000000) (hn : n = Dig.run (l.drop i)) (hin : i + n ≤ l.length) (k : Nat) (hk : l.length + 6 ≤ k) :
 Says (XN2.orthoepyref11_cut.j6 k (str l) ((i + n : Nat) : Int) i (str d) 0 false 0 (str [])) (Num.cutP d (l.drop i)) := by
 obtain ⟨k, rfl⟩ : ∃ j, k = j + 1 := ⟨k - 1, by omega⟩
 simp only [XN2.orthoepyref11_cut.j6]
 have e1 : wrap64 (((i + n : Nat) : Int) - i) = (n : Int) := by rw [cS _ (by omega) (by omega)]; omega
 have e2 : (str d) ++ str ((l.drop i).take n) = str (d ++ (l.drop i).take n) := kN _ _
 have e3 : ((l.drop i).take n).length = n := by rw [List.length_take, List.length_drop]; omega
 rw [sY l i n, e1, e2]
 rw [if_pos (by omega), if_pos (by omega), aR, if_pos (by omega), if_pos (by rw [aR, aR, e3]; omega)]
 unfold Num.cutP
 rw [← hn, List.drop_drop]
 by_cases h1 : i + n = l.length
 · rw [if_pos (by omega), if_pos (List.drop_eq_nil_of_le (by omega))]
   exact iQ ⟨d ++ (l.drop i).take n, n, false, 0, []⟩ rfl
 · have hne : ¬ l.drop (i + n) = [] := by rw [List.drop_eq_nil_iff]; omega
   rw [if_neg (by omega), if_neg hne]
   by_cases h2 : n = 0
   · rw [if_pos (by omega), if_pos h2]
     exact eA (d ++ (l.drop i).take n) n false 0 [] rfl
   · rw [if_neg (by omega), if_neg h2]
     exact xN l hl _ n [] (i + n) (by omega) k (by omega)
theorem xL (d : List UInt8) (i n : Nat) (hd : d.length ≤ 1000000) (hn : n = Dig.run (l.drop i)) (hin : i + n ≤ l.length) : ∀ (f s : Nat), s + f = n → ∀ k, l.length + 7 + f ≤ k →
 Says (XN2.orthoepyref11_cut.l1 k (str l) ((i + s : Nat) : Int) i (str d) 0 false 0 (str [])) (Num.cutP d (l.drop i))
 | f, s, hs, 0, hk => absurd hk (by omega)
 | 0, s, hs, k + 1, hk => by
  obtain rfl : s = n := by omega
  have key := cut_j6 l hl d i s hd hn hin k (by omega)
  simp only [XN2.orthoepyref11_cut.l1]
  rw [aR]
  by_cases hlt : i + s < l.length
  · have hstop := pL l i (by rw [← hn]; exact hlt)
    have hc : l[i + s]? = some (l[i + s]) := by simp [hlt]
    have hc2 : Dig.dig (l[i + s]) = false := by simp only [hn]; exact hstop
    rw [if_pos (by omega), if_pos (by omega), cL l (i + s) _ hc]
    have h2 : ¬ (48 ≤ (l[i + s]).toNat ∧ (l[i + s]).toNat ≤ 57) := by unfold Dig.dig at hc2; simp at hc2; omega
    by_cases h3 : 48 ≤ (l[i + s]).toNat
    · rw [if_pos (by omega), if_neg (by omega)]; exact key
    · rw [if_neg (by omega)]; exact key
  · rw [if_neg (by omega)]; exact key
 | f + 1, s, hs, k + 1, hk => by
  obtain ⟨c, hc0, hc1, hc2⟩ := Dig.run_lt (l.drop i) s (by omega)
  rw [List.getElem?_drop] at hc0
  have hlt := (List.getElem?_eq_some_iff.1 hc0).1
  simp only [XN2.orthoepyref11_cut.l1]
  rw [aR, if_pos (by omega), if_pos (by omega), cL l (i + s) c hc0, if_pos (by omega), if_pos (by omega), dZ l hl (i + s) (by omega)]
  exact xL d i n hd hn hin f (s + 1) (by omega) k (by omega)
theorem cut_j4 (i n : Nat) (hn : n = Dig.run (l.drop i)) (hin : i + n ≤ l.length) (k : Nat) (hk : 3 * l.length + 20 ≤ k) :
 Says (XN2.orthoepyref11_cut.j4 k (str l) ((i + n : Nat) : Int) i (decide (1 < n ∧ l[i]? = some 48)) (str []) 0 false 0 (str [])) (Num.cutB (l.drop i)) := by
 obtain ⟨k, rfl⟩ : ∃ j, k = j + 1 := ⟨k - 1, by omega⟩
 simp only [XN2.orthoepyref11_cut.j4]
 unfold Num.cutB
 rw [← hn, List.head?_drop, List.drop_drop, List.tail_drop]
 by_cases h0 : 1 < n ∧ l[i]? = some 48
 · rw [decide_eq_true h0, if_pos rfl, if_pos h0]
   exact eA [] 0 false 0 [] rfl
 · rw [decide_eq_false h0, if_neg (by simp), if_neg h0, sY l i n]
   have e3 : ((l.drop i).take n).length = n := by rw [List.length_take, List.length_drop]; omega
   rw [if_pos (by omega), if_pos (by omega), aR, if_pos (by omega)]
   by_cases h1 : i + n = l.length
   · rw [if_pos (by omega), if_pos (List.drop_eq_nil_of_le (by omega))]
     exact iQ ⟨(l.drop i).take n, 0, false, 0, []⟩ rfl
   · have hne : ¬ l.drop (i + n) = [] := by rw [List.drop_eq_nil_iff]; omega
     have hlt : i + n < l.length := by omega
     rw [if_neg (by omega), if_neg hne, aR, e3]
     by_cases h2 : n = 0
     · rw [if_pos (by omega), if_pos h2]
       exact eA ((l.drop i).take n) 0 false 0 [] rfl
     · have hc : l[i + n]? = some (l[i + n]) := by simp [hlt]
       rw [if_neg (by omega), if_neg h2, if_pos (by omega), if_pos (by omega), cL l (i + n) _ hc, List.head?_drop, hc]
       by_cases h3 : l[i + n] = 46
       · rw [if_pos (by rw [h3]; rfl), if_pos (by rw [h3]), dZ l hl (i + n) (by omega)]
         have hrun := Dig.run_le (l.drop (i + n + 1))
         rw [List.length_drop] at hrun
         have := xL l hl ((l.drop i).take n) (i + n + 1) (Dig.run (l.drop (i + n + 1))) (by omega) rfl (by omega) (Dig.run (l.drop (i + n + 1))) 0 (by omega) k (by omega)
         exact this
       · have e0 : ¬ ((l[i + n]).toNat : Int) = 46 := fun e => h3 (UInt8.toNat_inj.1 (by show _ = 46; omega))
         rw [if_neg e0, if_neg (by simp [h3])]
         exact xN l hl _ 0 [] (i + n) hlt k (by omega)
theorem cut_j3 (i n : Nat) (hn : n = Dig.run (l.drop i)) (hin : i + n ≤ l.length) (k : Nat) (hk : 3 * l.length + 21 ≤ k) :
 Says (XN2.orthoepyref11_cut.j3 k (str l) ((i + n : Nat) : Int) i (str []) 0 false 0 (str [])) (Num.cutB (l.drop i)) := by
 obtain ⟨k, rfl⟩ : ∃ j, k = j + 1 := ⟨k - 1, by omega⟩
 simp only [XN2.orthoepyref11_cut.j3]
 have e1 : wrap64 (((i + n : Nat) : Int) - i) = (n : Int) := by rw [cS _ (by omega) (by omega)]; omega
 have key := cut_j4 l hl i n hn hin k (by omega)
 rw [e1, aR]
 by_cases h1 : 1 < n
 · have hlt : i < l.length := by omega
   have hc : l[i]? = some (l[i]) := by simp [hlt]
   rw [if_pos (by omega), if_pos (by omega), if_pos (by omega), cL l i _ hc]
   have e2 : (((l[i]).toNat : Int) == 48) = decide (1 < n ∧ l[i]? = some 48) := by
    rw [hc, Bool.eq_iff_iff, beq_iff_eq, decide_eq_true_eq]
    exact ⟨fun e => ⟨h1, by congr 1; exact UInt8.toNat_inj.1 (by show _ = 48; omega)⟩, fun e => by injection e.2 with e; rw [e]; rfl⟩
   rw [e2]
   exact key
 · rw [if_neg (by omega)]
   rw [decide_eq_false (fun e => h1 e.1)] at key
   exact key
theorem xM (i n : Nat) (hn : n = Dig.run (l.drop i)) (hin : i + n ≤ l.length) : ∀ (f s : Nat), s + f = n → ∀ k, 3 * l.length + 22 + f ≤ k →
 Says (XN2.orthoepyref11_cut.l0 k (str l) ((i + s : Nat) : Int) i (str []) 0 false 0 (str [])) (Num.cutB (l.drop i))
 | f, s, hs, 0, hk => absurd hk (by omega)
 | 0, s, hs, k + 1, hk => by
  obtain rfl : s = n := by omega
  have key := cut_j3 l hl i s hn hin k (by omega)
  simp only [XN2.orthoepyref11_cut.l0]
  rw [aR]
  by_cases hlt : i + s < l.length
  · have hstop := pL l i (by rw [← hn]; exact hlt)
    have hc : l[i + s]? = some (l[i + s]) := by simp [hlt]
    have hc2 : Dig.dig (l[i + s]) = false := by simp only [hn]; exact hstop
    rw [if_pos (by omega), if_pos (by omega), cL l (i + s) _ hc]
    have h2 : ¬ (48 ≤ (l[i + s]).toNat ∧ (l[i + s]).toNat ≤ 57) := by unfold Dig.dig at hc2; simp at hc2; omega
    by_cases h3 : 48 ≤ (l[i + s]).toNat
    · rw [if_pos (by omega), if_neg (by omega)]; exact key
    · rw [if_neg (by omega)]; exact key
  · rw [if_neg (by omega)]; exact key
 | f + 1, s, hs, k + 1, hk => by
  obtain ⟨c, hc0, hc1, hc2⟩ := Dig.run_lt (l.drop i) s (by omega)
  rw [List.getElem?_drop] at hc0
  have hlt := (List.getElem?_eq_some_iff.1 hc0).1
  simp only [XN2.orthoepyref11_cut.l0]
  rw [aR, if_pos (by omega), if_pos (by omega), cL l (i + s) c hc0, if_pos (by omega), if_pos (by omega), dZ l hl (i + s) (by omega)]
  exact xM i n hn hin f (s + 1) (by omega) k (by omega)
theorem cut_f : Says (XN2.orthoepyref11_cut.f (4 * l.length + 40) (str l)) (Num.cutO l) := by
 unfold XN2.orthoepyref11_cut.f
 have hrun : ∀ i, i ≤ l.length → i + Dig.run (l.drop i) ≤ l.length := fun i hi => by
  have := Dig.run_le (l.drop i)
  rw [List.length_drop] at this
  omega
 have key : ∀ i, i ≤ l.length → ∀ k, 4 * l.length + 30 ≤ k → Says (XN2.orthoepyref11_cut.j1 k (str l) i (str []) 0 false 0 (str [])) (Num.cutB (l.drop i)) := fun i hi k hk => by
  obtain ⟨k, rfl⟩ : ∃ j, k = j + 1 := ⟨k - 1, by omega⟩
  simp only [XN2.orthoepyref11_cut.j1]
  have := hrun i hi
  exact xM l hl i (Dig.run (l.drop i)) rfl this (Dig.run (l.drop i)) 0 (by omega) k (by omega)
 have j0 : ∀ b : Bool, (b = true ↔ l.head? = some 45) → Says (XN2.orthoepyref11_cut.j0 (4 * l.length + 40) (str l) 0 b (str []) 0 false 0 (str [])) (Num.cutO l) := fun b hb => by
  unfold Num.cutO
  rw [show 4 * l.length + 40 = (4 * l.length + 39) + 1 from rfl]
  simp only [XN2.orthoepyref11_cut.j0]
  cases b with
  | true =>
   have h := hb.1 rfl
   have hlt : 1 ≤ l.length := by
    cases l with
    | nil => simp at h
    | cons c t => simp
   rw [if_pos rfl, if_pos h]
   have := key 1 hlt (4 * l.length + 39) (by omega)
   rw [show l.tail = l.drop 1 from (List.drop_one).symm]
   have e : wrap64 (0 + 1) = ((1 : Nat) : Int) := by unfold wrap64; rfl
   rw [e]
   exact this
  | false =>
   have h : ¬ l.head? = some 45 := fun e => by have := hb.2 e; cases this
   rw [if_neg (by simp), if_neg h]
   exact key 0 (by omega) (4 * l.length + 39) (by omega)
 have : Says (if 0 < ((str l).size : Int) then XN2.orthoepyref11_cut.j0 (4 * l.length + 40) (str l) 0 (bt (str l) 0 == 45) (str []) 0 false 0 (str []) else XN2.orthoepyref11_cut.j0 (4 * l.length + 40) (str l) 0 false (str []) 0 false 0 (str [])) (Num.cutO l) := by
  rw [aR]
  by_cases h0 : 0 < l.length
  · have hc : l[0]? = some (l[0]) := by simp [h0]
    have e0 : bt (str l) 0 = ((l[0]).toNat : Int) := cL l 0 _ hc
    rw [if_pos (by omega), e0]
    refine j0 _ ?_
    rw [List.head?_eq_getElem?, hc, beq_iff_eq]
    exact ⟨fun e => by congr 1; exact UInt8.toNat_inj.1 (by show _ = 45; omega), fun e => by injection e with e; rw [e]; rfl⟩
  · rw [if_neg (by omega)]
    exact j0 false (by rw [List.head?_eq_getElem?, List.getElem?_eq_none (by omega)]; simp)
 exact this
end
end Go.Proofs.YthdncmagfgoboaaGreatDoor
end

section
namespace Go.Proofs.YthdncmagfgoboaaGreatDoor
open Go.RowKit
set_option maxRecDepth 100000
set_option maxHeartbeats 4000000
namespace Num
open Go.Proofs.YthdncmagfgoboaaGreatDoor.Dig (Bs run dig)
structure Parts.Good (p : Parts) (n : Nat) : Prop where
 d : p.d.all dig = true
 x : p.x.all dig = true
 ld : p.d.length ≤ n
 lx : p.x.length ≤ n
 lb : p.behind ≤ n
theorem uR {d : Bs} {m n : Nat} {t : Bs} {P : Parts} (hd : d.all dig = true) (ld : d.length ≤ n) (lm : m ≤ n) (lt : t.length ≤ n) (h : cutX d m t = some P) : P.Good n := by
 have h1 : t.tail.length ≤ n := by rw [List.length_tail]; omega
 unfold cutX at h
 repeat' split at h
 all_goals first
  | (injection h with h; subst h; rename_i h0; first | exact ⟨hd, h0, ld, h1, lm⟩ | exact ⟨hd, h0, ld, lt, lm⟩)
  | cases h
theorem nG {d : Bs} {m n : Nat} {t : Bs} {P : Parts} (hd : d.all dig = true) (ld : d.length ≤ n) (lm : m ≤ n) (lt : t.length ≤ n) (h : cutE d m t = some P) : P.Good n := by
 unfold cutE at h
 split at h
 · exact uR hd ld lm (by rw [List.length_tail]; omega) h
 · cases h
theorem iI {a b : Bs} (ha : a.all dig = true) (hb : b.all dig = true) : (a ++ b).all dig = true := by rw [List.all_append, ha, hb]; rfl
theorem uT {d v : Bs} {n : Nat} {P : Parts} (hd : d.all dig = true) (ld : d.length + v.length ≤ n) (h : cutP d v = some P) : P.Good n := by
 have hr := Dig.run_le v
 have ht := Dig.run_take v
 have e1 : (d ++ v.take (run v)).length ≤ n := by rw [List.length_append, List.length_take]; omega
 unfold cutP at h
 split at h
 · injection h with h; subst h
   exact ⟨iI hd ht, rfl, e1, Nat.zero_le _, by show run v ≤ n; omega⟩
 · split at h
   · cases h
   · exact nG (iI hd ht) e1 (by omega) (by rw [List.length_drop]; omega) h
theorem nH {t : Bs} {n : Nat} {P : Parts} (lt : t.length ≤ n) (h : cutB t = some P) : P.Good n := by
 have hr := Dig.run_le t
 have ht := Dig.run_take t
 have e1 : (t.take (run t)).length ≤ n := by rw [List.length_take]; omega
 unfold cutB at h
 split at h
 · cases h
 · split at h
   · injection h with h; subst h
     exact ⟨ht, rfl, e1, Nat.zero_le _, Nat.zero_le _⟩
   · split at h
     · cases h
     · split at h
       · exact uT ht (by rw [List.length_take, List.length_tail, List.length_drop]; omega) h
       · exact nG ht e1 (Nat.zero_le _) (by rw [List.length_drop]; omega) h
theorem cutO_good {s : Bs} {n : Nat} {P : Parts} (ls : s.length ≤ n) (h : cutO s = some P) : P.Good n := by
 unfold cutO at h
 split at h
 · exact nH (by rw [List.length_tail]; omega) h
 · exact nH ls h
theorem jK (s : Bool) (D : Bs) (E : Int) (n : Nat) (hn : D.length ≤ n) (he : E ≤ 1000000000) (he' : -(n : Int) - 1000000000 ≤ E) (hb : n ≤ 10000000) :
 (Dig.norm ⟨s, D, E⟩).d.length ≤ 1000000000000 ∧ (Dig.norm ⟨s, D, E⟩).e ≤ 1000000000000 ∧ -1000000000000 ≤ (Dig.norm ⟨s, D, E⟩).e := by
 have h1 := norm_e_small ⟨s, D, E⟩
 have h2 : (Dig.norm ⟨s, D, E⟩).d.length ≤ D.length := by rw [Dig.norm_d]; exact Dig.core_le D
 simp only at h1
 omega
theorem fP (s : Bool) (t : Bs) (d : Dig.Dec) (hl : t.length ≤ 1000000) (h : Dig.readBody s t = some d) :
 (d.d.length ≤ 1000000000000 ∧ d.e ≤ 1000000000000 ∧ -1000000000000 ≤ d.e) ∧ d.d.all dig = true := by
 have hr := Dig.run_le t
 have ht := Dig.run_take t
 unfold Dig.readBody at h
 split at h
 · cases h
 · split at h
   · split at h
     · cases h
     · obtain ⟨e, he, hd⟩ := Option.map_eq_some_iff.1 h
       have hb := Dig.readExp_bound _ _ he
       have h2 := Dig.run_le (t.drop (run t + 1))
       rw [List.length_drop] at h2
       subst hd
       refine ⟨jK _ _ _ 2000000 (by rw [List.length_append, List.length_take, List.length_take, List.length_drop]; omega) (by omega) (by omega) (by omega), Dig.norm_all _ ?_⟩
       exact iI ht (Dig.run_take _)
   · obtain ⟨e, he, hd⟩ := Option.map_eq_some_iff.1 h
     have hb := Dig.readExp_bound _ _ he
     subst hd
     exact ⟨jK _ _ _ 2000000 (by rw [List.length_take]; omega) (by omega) (by omega) (by omega), Dig.norm_all _ ht⟩
theorem pU (s : Bs) (d : Dig.Dec) (hl : s.length ≤ 1000000) (h : Dig.read s = some d) :
 (d.d.length ≤ 1000000000000 ∧ d.e ≤ 1000000000000 ∧ -1000000000000 ≤ d.e) ∧ d.d.all dig = true := by
 unfold Dig.read at h
 split at h
 · exact fP _ _ _ (by rw [List.length_tail]; omega) h
 · exact fP _ _ _ hl h
theorem read_bounds (s : Bs) (hl : s.length ≤ 1000000) : ((Dig.read s).getD Dig.zero).d.length ≤ 1000000000000 ∧ ((Dig.read s).getD Dig.zero).e ≤ 1000000000000 ∧ -1000000000000 ≤ ((Dig.read s).getD Dig.zero).e := by
 cases h : Dig.read s with
 | none => exact ⟨by decide, by decide, by decide⟩
 | some d => exact (pU s d hl h).1
theorem read_digits (s : Bs) (d : Dig.Dec) (h : Dig.read s = some d) (hl : s.length ≤ 1000000 := by omega) : d.d.all dig = true := (pU s d hl h).2
def rpush (s : Bs) (x : UInt8) : Except Nat Bs :=
 match cutO (s ++ [x]) with
 | none => .error 2
 | some p => if mayP p = true then .ok (s ++ [x]) else
  if Dig.whole ((Dig.read (standsL (s ++ [x]))).getD Dig.zero) = true then .error 8 else .error 7
def rend (s : Bs) : Int × Int :=
 match Dig.read s with
 | none => (0, 3)
 | some d => Dig.int d
end Num
theorem vZ (l : List UInt8) (P : Num.Parts) (w : World) (hl : l.length ≤ 1000000) (h : Num.cutO l = some P) :
 Calls Tryz.prog 61 #[.string (str l)] w fun e w' => e = .returned (.tuple #[.agg #[.string (str P.d), .int .i64 P.behind, .bool P.e, .int .u8 P.sign, .string (str P.x)], .bool true]) ∧ Touch [] w w' := by
 obtain ⟨q, hq, hP⟩ := cut_f l hl
 have := hP P h
 subst this
 rw [h] at hq
 exact (XN2.orthoepyref11_cut.calls _ _ _ _ _ _ _ _ w hq).mono fun _ _ h => ⟨h.1, Touch.of_below h.2 _⟩
theorem rcut_no (l : List UInt8) (w : World) (hl : l.length ≤ 1000000) (h : Num.cutO l = none) :
 Calls Tryz.prog 61 #[.string (str l)] w fun e w' => (∃ P : Num.Parts, e = .returned (.tuple #[.agg #[.string (str P.d), .int .i64 P.behind, .bool P.e, .int .u8 P.sign, .string (str P.x)], .bool false])) ∧ Touch [] w w' := by
 obtain ⟨q, hq, hP⟩ := cut_f l hl
 rw [h] at hq
 exact (XN2.orthoepyref11_cut.calls _ _ _ _ _ _ _ _ w hq).mono fun _ _ h => ⟨⟨q, h.1⟩, Touch.of_below h.2 _⟩
theorem vN (p : Num.Parts) (w : World) (n : Nat) (hg : p.Good n) (hn : n ≤ 1000000) :
 Calls Tryz.prog 62 #[.agg #[.string (str p.d), .int .i64 p.behind, .bool p.e, .int .u8 p.sign, .string (str p.x)]] w fun e w' => e = .returned (.bool (Num.mayP p)) ∧ Touch [] w w' :=
 (XN1.orthoepyref11_may.calls _ _ _ _ _ _ _ w (may_eq p hg.d hg.x (Nat.le_trans hg.ld hn) (Nat.le_trans hg.lx hn) (Nat.le_trans hg.lb hn))).mono fun _ _ h => ⟨h.1, Touch.of_below h.2 _⟩
theorem pM (l : List UInt8) (w : World) (hl : l.length ≤ 1000000) :
 Calls Tryz.prog 64 #[.string (str l)] w fun e w' => e = .returned (.string (str (Num.standsL l))) ∧ Touch [] w w' :=
 (XN1.orthoepyref11_stands.calls (l.length + 1) _ _ w (mJ (l.length + 1) l (by omega) (by omega))).mono fun _ _ h => ⟨h.1, by obtain ⟨n, hn⟩ := h.2.out; rw [hn]; exact (Touch.refl _ _).drewN n⟩
theorem rH (l : List UInt8) : (Num.standsL l).length ≤ l.length := by
 unfold Num.standsL
 rw [List.length_reverse]
 have := (List.dropWhile_sublist (fun c => !Dig.dig c) (l := l.reverse)).length_le
 rw [List.length_reverse] at this
 exact this
def RNumAt (w : World) (b : Nat) (s : List UInt8) : Prop := w.heap[b]? = some (.cells #[.string (str s)] 121 (0, 0))
theorem xQ (W : World) (b : Nat) (x : UInt8) (h : W.cell? ⟨b, 0, none⟩ = some (.int .u8 x.toNat)) :
 (convert 22 9 (.slice (some ⟨b, 0, none⟩) 1 1)).run Tryz.prog W = .ok (.string (str [x])) W := by
 have := run_convert_bytes_back (P := Tryz.prog) W 22 9 5 ⟨b, 0, none⟩ 1 [x] Tryz.underlying22 Tryz.underlying5 Tryz.underlying9 (fun k hk => by
  have hk0 : k = 0 := by simpa using hk
  subst hk0
  exact h)
 exact this
def dL (b : Nat) (s : List UInt8) (x : UInt8) (w : World) (e : Ending) (w' : World) : Prop :=
 match Num.rpush s x with
 | .error c => e = .returned (.int .i64 c) ∧ RNumAt w' b s ∧ Touch [b] w w'
 | .ok s' => e = .returned (.int .i64 0) ∧ RNumAt w' b s' ∧ Touch [b] w w'
theorem eV {b : Nat} {s : List UInt8} {x : UInt8} {w w' : World} {c : Nat} (he : Num.rpush s x = .error c) (h : RNumAt w' b s) (ht : Touch [b] w w') : dL b s x w (.returned (.int .i64 c)) w' := by
 unfold dL; rw [he]; exact ⟨rfl, h, ht⟩
theorem nW {b : Nat} {s s' : List UInt8} {x : UInt8} {w w' : World} (he : Num.rpush s x = .ok s') (h : RNumAt w' b s') (ht : Touch [b] w w') : dL b s x w (.returned (.int .i64 0)) w' := by
 unfold dL; rw [he]; exact ⟨rfl, h, ht⟩
theorem mN (b : Nat) (s : List UInt8) (x : UInt8) (w : World) (hN : RNumAt w b s) (hl : s.length ≤ 100000) :
 Calls Tryz.prog 39 #[.pointer (some ⟨b, 0, none⟩), .int .u8 x.toNat] w (dL b s x w) := by
 unfold RNumAt at hN
 have hx := x.toNat_lt
 obtain ⟨S, hS⟩ : ∃ S, S = s ++ [x] := ⟨_, rfl⟩
 have hSl : S.length ≤ 100001 := by rw [hS, List.length_append]; simp; omega
 have hcat : ∀ w, (Op.stringOp .add (str s) (str [x])).run Tryz.prog w = .ok (.string (str S)) w := fun w => by rw [hS]; exact kD s [x] (by simp; omega) w
 have hdef : Num.rpush s x = match Num.cutO S with
  | none => .error 2
  | some p => if Num.mayP p = true then .ok S else if Dig.whole ((Dig.read (Num.standsL S)).getD Dig.zero) = true then .error 8 else .error 7 := by rw [hS]; rfl
 replace hdef := Box.mk hdef
 replace hS := Box.mk hS
 have hcl : ∀ w', Touch [] w w' → ∀ i, w'.cell? ⟨b, i, none⟩ = (#[.string (str s)] : Array Value)[i]? := fun w' h => aN (h.keep hN (by simp))
 have hcv := fun W b h => xQ W b x h
 go_enter Tryz.func39, Tryz.ntmps39
 go_upto_region 1 with (fail)
 go_cut [5] (fun v wx => v = .string (str S) ∧ Touch [] w wx)
 case first =>
  have hN0 := aN hN 0
  have lb := aB hN
  simp at hN0
  go_region_with (fail)
  all_goals
   go_wp2
   go_meet
   refine ⟨rfl, ?_⟩
   repeat (first | (with_reducible exact Touch.refl _ _) | (with_reducible assumption) | (with_reducible apply Touch.drew) | (with_reducible apply Touch.alloc))
 case rest =>
  obtain ⟨rfl, hT⟩ := hcut
  have hN2 := hT.keep hN (by simp)
  clear hcl hcv hcat hN
  cases hc : Num.cutO S with
  | none =>
   have he : Box (Num.rpush s x = .error 2) := ⟨by rw [hdef.out, hc]⟩
   have hcut := fun w => rcut_no S w (by omega) hc
   clear hdef hc
   go_wp2_with fail
   refine (hcut _).mono ?_
   rintro e w1 ⟨⟨P, rfl⟩, ht1⟩
   try go_simp
   go_wp2
   go_ret
   exact eV he.out (aW (ht1.keep hN2 (by simp)) _) (((hT.trans ht1).alloc _).mono (by simp))
  | some P =>
   have hg := Num.cutO_good (n := 100001) hSl hc
   have hcut := fun w => vZ S P w (by omega) hc
   have hmay := fun w => vN P w 100001 hg (by omega)
   rw [hc] at hdef
   clear hc hg
   go_wp2_with fail
   refine (hcut _).mono ?_
   rintro e w1 ⟨rfl, ht1⟩
   try go_simp
   have hN3 := ht1.keep hN2 (by simp)
   have hT3 := hT.trans ht1
   clear ht1 hcut hN2 hT
   go_wp2_with fail
   cases hm : Num.mayP P with
   | true =>
    have he : Box (Num.rpush s x = .ok S) := ⟨by rw [hdef.out]; simp only [hm]; rfl⟩
    rw [hm] at hmay
    clear hdef hm
    refine (hmay _).mono ?_
    rintro e w2 ⟨rfl, ht2⟩
    try go_simp
    have hN4 := ht2.keep (aW hN3 _) (by simp)
    have c0 := aN hN4 0
    have f0 := aQ hN4 0
    have lb := aB hN4
    simp at c0
    go_wp2
    go_ret
    exact nW he.out (aF hN4 0 _) ((((hT3.alloc _).trans ht2).mono (by simp)).setCell (by simp) _)
   | false =>
    have hdef2 : Box (Num.rpush s x = if Dig.whole ((Dig.read (Num.standsL S)).getD Dig.zero) = true then .error 8 else .error 7) := ⟨by rw [hdef.out]; simp only [hm]; rfl⟩
    rw [hm] at hmay
    clear hdef hm
    refine (hmay _).mono ?_
    rintro e w2 ⟨rfl, ht2⟩
    try go_simp
    have hN4 := ht2.keep (aW hN3 _) (by simp)
    have hT4 := (hT3.alloc _).trans ht2
    clear ht2 hmay hN3 hT3
    have hst := fun w => pM S w (by omega)
    have hsl := rH S
    obtain ⟨U, hU⟩ : ∃ U, U = Num.standsL S := ⟨_, rfl⟩
    rw [← hU] at hst hsl hdef2
    clear hU
    have hrd := fun w => gG U w (by omega)
    have hwb := Num.read_bounds U (by omega)
    obtain ⟨y, hy⟩ : ∃ y, y = (Dig.read U).getD Dig.zero := ⟨_, rfl⟩
    rw [← hy] at hrd hwb hdef2
    obtain ⟨hw1, hw2, hw3⟩ := hwb
    generalize (Dig.read U).isSome = k at hrd
    clear hy
    have hwh := fun w => rN y w hw1 hw2 hw3
    obtain ⟨wh, hwhe⟩ : ∃ wh, wh = Dig.whole y := ⟨_, rfl⟩
    rw [← hwhe] at hwh hdef2
    clear hwhe hw1 hw2 hw3
    obtain ⟨ys, yd, ye⟩ := y
    simp only [dec] at hrd hwh
    go_wp2_with fail
    refine (hst _).mono ?_
    rintro e w3 ⟨rfl, ht3⟩
    try go_simp
    go_wp2_with fail
    refine (hrd _).mono ?_
    rintro e w4 ⟨rfl, ht4⟩
    try go_simp
    have hN5 := (ht3.trans ht4).keep hN4 (by simp)
    have hT5 := hT4.trans (ht3.trans ht4)
    clear ht3 ht4 hN4 hT4 hst hrd
    go_wp2_with fail
    refine (hwh _).mono ?_
    rintro e w5 ⟨rfl, ht5⟩
    try go_simp
    have hN6 := ht5.keep (aW hN5 _) (by simp)
    have hT6 := ((hT5.alloc _).trans ht5).mono (G := [b]) (by simp)
    cases wh with
    | true =>
     go_wp2
     go_ret
     exact eV (by simpa using hdef2.out) hN6 hT6
    | false =>
     go_wp2
     go_ret
     exact eV (by simpa using hdef2.out) hN6 hT6
theorem lC (b : Nat) (s : List UInt8) (w : World) (hN : RNumAt w b s) (hl : s.length ≤ 100000) :
 Calls Tryz.prog 43 #[.pointer (some ⟨b, 0, none⟩)] w fun e w' => e = .returned (.tuple #[.int .i64 (Num.rend s).1, .int .i64 (Num.rend s).2]) ∧ Touch [] w w' := by
 unfold RNumAt at hN
 have c0 := aN hN 0
 have lb := aB hN
 simp at c0
 cases hr : Dig.read s with
 | none =>
  have hrd : ∀ w, Calls Tryz.prog 63 #[.string (str s)] w fun e w' => e = .returned (.tuple #[.agg #[.bool false, .string ⟨#[]⟩, .int .i64 0], .bool false]) ∧ Touch [] w w' := fun w => by
   have := gG s w (by omega)
   rw [hr] at this
   exact this
  have he : Box (Num.rend s = (0, 3)) := ⟨by unfold Num.rend; rw [hr]⟩
  clear hr hN
  refine aA Tryz.func43 rfl ?_
  intro Q_ hQ_
  simp only [Tryz.ntmps43, ents_, Nat.reduceAdd, Nat.reduceSub]
  go_wp2_with fail
  refine (hrd _).mono ?_
  rintro e w1 ⟨rfl, ht1⟩
  try go_simp
  go_wp2
  refine hQ_.ret (results_tmp2 rfl _ _ _) rfl ?_
  exact ⟨by rw [he.out]; rfl, ht1.alloc _⟩
 | some d =>
  have hrd : ∀ w, Calls Tryz.prog 63 #[.string (str s)] w fun e w' => e = .returned (.tuple #[.agg #[.bool d.neg, .string (str d.d), .int .i64 d.e], .bool true]) ∧ Touch [] w w' := fun w => by
   have := gG s w (by omega)
   rw [hr] at this
   exact this
  have hwb := Num.read_bounds s (by omega)
  have hdd := Num.read_digits s d hr (by omega)
  rw [hr] at hwb
  obtain ⟨hw1, hw2, hw3⟩ := hwb
  have hin := fun w => pS d w hw1 hw2 hw3 hdd
  have he : Box (Num.rend s = Dig.int d) := ⟨by unfold Num.rend; rw [hr]⟩
  generalize Dig.int d = I at hin he
  obtain ⟨i1, i2⟩ := I
  obtain ⟨ys, yd, ye⟩ := d
  simp only [dec] at hin
  clear hr hN hw1 hw2 hw3 hdd
  refine aA Tryz.func43 rfl ?_
  intro Q_ hQ_
  simp only [Tryz.ntmps43, ents_, Nat.reduceAdd, Nat.reduceSub]
  go_wp2_with fail
  refine (hrd _).mono ?_
  rintro e w1 ⟨rfl, ht1⟩
  try go_simp
  go_wp2_with fail
  refine (hin _).mono ?_
  rintro e w2 ⟨rfl, ht2⟩
  try go_simp
  go_wp2
  refine hQ_.ret (results_tmp2 rfl _ _ _) rfl ?_
  exact ⟨by rw [he.out]; rfl, (ht1.alloc _).trans ht2⟩
end Go.Proofs.YthdncmagfgoboaaGreatDoor
end

section
namespace Go.Proofs.YthdncmagfgoboaaGreatDoor.Num
open Go
open Go.Proofs.YthdncmagfgoboaaGreatDoor.Dig (Bs run dig)
structure T where
 neg : Bool
 d : Bs
 pt : Bool
 f : Bs
 ex : Bool
 eb : UInt8
 sg : Bs
 x : Bs
def T.man (t : T) : Bs := t.d ++ (if t.pt = true then 46 :: t.f else [])
def T.tail (t : T) : Bs := if t.ex = true then t.eb :: (t.sg ++ t.x) else []
def T.text (t : T) : Bs := (if t.neg = true then [45] else []) ++ (t.man ++ t.tail)
structure T.V (t : T) : Prop where
 d : t.d.all dig = true
 f : t.f.all dig = true
 x : t.x.all dig = true
 ld : ¬ (1 < t.d.length ∧ t.d.head? = some 48)
 np : t.pt = false → t.f = []
 nx : t.ex = false → t.sg = [] ∧ t.x = []
 pd : t.pt = true → t.d ≠ []
 xd : t.ex = true → t.d ≠ [] ∧ (t.pt = true → t.f ≠ []) ∧ (t.eb = 101 ∨ t.eb = 69)
 sg : t.sg = [] ∨ t.sg = [45] ∨ t.sg = [43]
def T.at_ (t : T) : Nat :=
 if t.ex = true then (if t.x ≠ [] then 8 else if t.sg ≠ [] then 7 else 6) else
 if t.pt = true then (if t.f ≠ [] then 5 else 4) else
 if t.d = [] then (if t.neg = true then 1 else 0) else if t.d.head? = some 48 then 2 else 3
def T.sgn (t : T) : Nat := if t.sg = [45] then 45 else if t.sg = [43] then 43 else 0
def T.parts (t : T) : Parts := ⟨t.d ++ t.f, t.f.length, t.ex, t.sgn, t.x⟩
def T.step (t : T) (c : UInt8) (p : Nat) : T :=
 if p = 1 then { t with neg := true } else
 if p = 2 ∨ p = 3 then { t with d := t.d ++ [c] } else
 if p = 4 then { t with pt := true } else
 if p = 5 then { t with f := t.f ++ [c] } else
 if p = 6 then { t with ex := true, eb := c } else
 if p = 7 then { t with sg := [c] } else { t with x := t.x ++ [c] }
theorem fJ {c : UInt8} (h : 48 ≤ c.toNat ∧ c.toNat ≤ 57) : dig c = true := by unfold Dig.dig; simp; omega
theorem fG {c : UInt8} (h : ¬ (48 ≤ c.toNat ∧ c.toNat ≤ 57)) : dig c = false := by unfold Dig.dig; simp; omega
theorem fO {c : UInt8} {k : Nat} (hk : k < 256) (h : c.toNat = k) : c = UInt8.ofNat k := UInt8.toNat_inj.1 (by rw [h]; simp; omega)
theorem step_ok (t : T) (v : t.V) (c : UInt8) (p : Nat) (h : next t.at_ c.toNat = some p) : (t.step c p).V ∧ (t.step c p).text = t.text ++ [c] ∧ (t.step c p).at_ = p := by
 have hfig := next_fig _ _ _ h
 obtain ⟨v1, v2, v3, v4, v5, v6, v7, v8, v9⟩ := v
 obtain ⟨neg, d, pt, f, ex, eb, sg, x⟩ := t
 simp only at v1 v2 v3 v4 v5 v6 v7 v8 v9
 unfold T.at_ at h
 simp only at h
 cases ex with
 | true =>
  obtain ⟨w1, w2, w3⟩ := v8 rfl
  rw [if_pos rfl] at h
  by_cases hx : x = []
  · subst hx
    by_cases hs : sg = []
    · subst hs
      simp [next] at h
      split at h
      · rename_i hc
        injection h with h; subst h
        have hcc : c = 45 ∨ c = 43 := by rcases hc with hc | hc; exact .inl (fO (k := 45) (by decide) hc); exact .inr (fO (k := 43) (by decide) hc)
        refine ⟨⟨v1, v2, v3, v4, v5, fun e => by simp [T.step] at e, v7, v8, by rcases hcc with rfl | rfl <;> simp [T.step]⟩, ?_, ?_⟩
        · simp [T.step, T.text, T.man, T.tail]
        · simp [T.step, T.at_]
      · split at h
        · rename_i hc
          injection h with h; subst h
          refine ⟨⟨v1, v2, by simp [T.step, fJ hc], v4, v5, fun e => by simp [T.step] at e, v7, v8, v9⟩, ?_, ?_⟩
          · simp [T.step, T.text, T.man, T.tail]
          · simp [T.step, T.at_]
        · cases h
    · simp [next, hs] at h
      obtain ⟨hc, rfl⟩ := h
      refine ⟨⟨v1, v2, by simp [T.step, fJ hc], v4, v5, fun e => by simp [T.step] at e, v7, v8, v9⟩, ?_, ?_⟩
      · simp [T.step, T.text, T.man, T.tail]
      · simp [T.step, T.at_]
  · simp [next, hx] at h
    obtain ⟨hc, rfl⟩ := h
    refine ⟨⟨v1, v2, by simp only [T.step]; simp [v3, fJ hc], v4, v5, fun e => by simp [T.step] at e, v7, v8, v9⟩, ?_, ?_⟩
    · simp [T.step, T.text, T.man, T.tail]
    · simp [T.step, T.at_]
 | false =>
  obtain ⟨rfl, rfl⟩ := v6 rfl
  rw [if_neg (by simp)] at h
  cases pt with
  | true =>
   have w1 := v7 rfl
   rw [if_pos rfl] at h
   by_cases hf : f = []
   · subst hf
     simp [next] at h
     obtain ⟨hc, rfl⟩ := h
     refine ⟨⟨v1, by simp [T.step, fJ hc], v3, v4, fun e => by simp [T.step] at e, fun e => ⟨rfl, rfl⟩, v7, fun e => by simp [T.step] at e, v9⟩, ?_, ?_⟩
     · simp [T.step, T.text, T.man, T.tail]
     · simp [T.step, T.at_]
   · simp [next, hf] at h
     split at h
     · rename_i hc
       injection h with h; subst h
       have hcc : c = 101 ∨ c = 69 := by rcases hc with hc | hc; exact .inl (fO (k := 101) (by decide) hc); exact .inr (fO (k := 69) (by decide) hc)
       refine ⟨⟨v1, v2, v3, v4, v5, fun e => by simp [T.step] at e, v7, fun e => ⟨w1, fun _ => hf, hcc⟩, v9⟩, ?_, ?_⟩
       · simp [T.step, T.text, T.man, T.tail]
       · simp [T.step, T.at_]
     · split at h
       · rename_i hc
         injection h with h; subst h
         refine ⟨⟨v1, by simp only [T.step]; simp [v2, fJ hc], v3, v4, fun e => by simp [T.step] at e, fun e => ⟨rfl, rfl⟩, v7, fun e => by simp [T.step] at e, v9⟩, ?_, ?_⟩
         · simp [T.step, T.text, T.man, T.tail]
         · simp [T.step, T.at_]
       · cases h
  | false =>
   have w2 := v5 rfl
   subst w2
   rw [if_neg (by simp)] at h
   by_cases hd : d = []
   · subst hd
     rw [if_pos rfl] at h
     have dig2 : 48 ≤ c.toNat ∧ c.toNat ≤ 57 → p = 2 ∨ p = 3 → (T.step ⟨neg, [], false, [], false, eb, [], []⟩ c p).V ∧ (T.step ⟨neg, [], false, [], false, eb, [], []⟩ c p).text = T.text ⟨neg, [], false, [], false, eb, [], []⟩ ++ [c] := fun hc hp => by
      have e : T.step ⟨neg, [], false, [], false, eb, [], []⟩ c p = ⟨neg, [c], false, [], false, eb, [], []⟩ := by rcases hp with rfl | rfl <;> rfl
      rw [e]
      refine ⟨⟨by simp [fJ hc], rfl, rfl, by simp, fun _ => rfl, fun _ => ⟨rfl, rfl⟩, fun e => by simp at e, fun e => by simp at e, .inl rfl⟩, ?_⟩
      simp [T.text, T.man, T.tail]
     have at23 : p = 2 ∨ p = 3 → (p = 2 ↔ c = 48) → (T.step ⟨neg, [], false, [], false, eb, [], []⟩ c p).at_ = p := fun hp hc => by
      rcases hp with rfl | rfl
      · have := hc.1 rfl
        subst this
        rfl
      · have : ¬ c = 48 := fun e => by have := hc.2 e; omega
        simp [T.step, T.at_, this]
     have c48 : c.toNat = 48 ↔ c = 48 := ⟨fun e => fO (k := 48) (by decide) e, fun e => by rw [e]; rfl⟩
     cases neg with
     | true =>
      simp [next] at h
      split at h
      · rename_i hc
        injection h with h; subst h
        obtain ⟨h1, h2⟩ := dig2 (by omega) (.inl rfl)
        exact ⟨h1, h2, at23 (.inl rfl) ⟨fun _ => c48.1 hc, fun _ => rfl⟩⟩
      · split at h
        · rename_i hn hc
          injection h with h; subst h
          obtain ⟨h1, h2⟩ := dig2 hc (.inr rfl)
          exact ⟨h1, h2, at23 (.inr rfl) ⟨fun e => by omega, fun e => absurd (c48.2 e) hn⟩⟩
        · cases h
     | false =>
      simp [next] at h
      split at h
      · rename_i hc
        injection h with h; subst h
        have hc' : c = 45 := fO (k := 45) (by decide) hc
        subst hc'
        refine ⟨⟨rfl, rfl, rfl, by simp [T.step], fun _ => rfl, fun _ => ⟨rfl, rfl⟩, fun e => by simp [T.step] at e, fun e => by simp [T.step] at e, .inl rfl⟩, rfl, rfl⟩
      · split at h
        · rename_i hc
          injection h with h; subst h
          obtain ⟨h1, h2⟩ := dig2 (by omega) (.inl rfl)
          exact ⟨h1, h2, at23 (.inl rfl) ⟨fun _ => c48.1 hc, fun _ => rfl⟩⟩
        · split at h
          · rename_i hn hc
            injection h with h; subst h
            obtain ⟨h1, h2⟩ := dig2 hc (.inr rfl)
            exact ⟨h1, h2, at23 (.inr rfl) ⟨fun e => by omega, fun e => absurd (c48.2 e) hn⟩⟩
          · cases h
   · rw [if_neg hd] at h
     have pnt : p = 4 → (T.step ⟨neg, d, false, [], false, eb, [], []⟩ c p).V ∧ (c = 46 → (T.step ⟨neg, d, false, [], false, eb, [], []⟩ c p).text = T.text ⟨neg, d, false, [], false, eb, [], []⟩ ++ [c]) ∧ (T.step ⟨neg, d, false, [], false, eb, [], []⟩ c p).at_ = p := fun e => by
      subst e
      refine ⟨⟨v1, rfl, rfl, v4, fun _ => rfl, fun _ => ⟨rfl, rfl⟩, fun _ => hd, fun e => by simp [T.step] at e, .inl rfl⟩, ?_, ?_⟩
      · rintro rfl; simp [T.step, T.text, T.man, T.tail]
      · simp [T.step, T.at_]
     have exx : p = 6 → (c.toNat = 101 ∨ c.toNat = 69) → (T.step ⟨neg, d, false, [], false, eb, [], []⟩ c p).V ∧ (T.step ⟨neg, d, false, [], false, eb, [], []⟩ c p).text = T.text ⟨neg, d, false, [], false, eb, [], []⟩ ++ [c] ∧ (T.step ⟨neg, d, false, [], false, eb, [], []⟩ c p).at_ = p := fun e hc => by
      subst e
      have hcc : c = 101 ∨ c = 69 := by rcases hc with hc | hc; exact .inl (fO (k := 101) (by decide) hc); exact .inr (fO (k := 69) (by decide) hc)
      refine ⟨⟨v1, rfl, rfl, v4, fun _ => rfl, fun _ => ⟨rfl, rfl⟩, fun e => by simp [T.step] at e, fun _ => ⟨hd, fun e => by simp [T.step] at e, hcc⟩, .inl rfl⟩, ?_, ?_⟩
      · simp [T.step, T.text, T.man, T.tail]
      · simp [T.step, T.at_]
     by_cases hh : d.head? = some 48
     · rw [if_pos hh] at h
       simp [next] at h
       split at h
       · rename_i hc
         injection h with h
         obtain ⟨h1, h2, h3⟩ := pnt h.symm
         exact ⟨h1, h2 (fO (k := 46) (by decide) hc), h3⟩
       · by_cases hc : c.toNat = 101 ∨ c.toNat = 69
         · rw [if_pos hc] at h
           injection h with h
           exact exx h.symm hc
         · rw [if_neg hc] at h; cases h
     · rw [if_neg hh] at h
       simp [next] at h
       split at h
       · rename_i hc
         injection h with h; subst h
         refine ⟨⟨by simp only [T.step]; simp [v1, fJ hc], rfl, rfl, ?_, fun _ => rfl, fun _ => ⟨rfl, rfl⟩, fun e => by simp [T.step] at e, fun e => by simp [T.step] at e, .inl rfl⟩, ?_, ?_⟩
         · simp only [T.step]
           intro hx
           apply hh
           have := hx.2
           cases d with
           | nil => exact absurd rfl hd
           | cons a t => simpa using this
         · simp [T.step, T.text, T.man, T.tail]
         · cases d with
           | nil => exact absurd rfl hd
           | cons a t =>
            have ha : ¬ a = 48 := by simpa using hh
            simp [T.step, T.at_, ha]
       · split at h
         · rename_i hc
           injection h with h
           obtain ⟨h1, h2, h3⟩ := pnt h.symm
           exact ⟨h1, h2 (fO (k := 46) (by decide) hc), h3⟩
         · by_cases hc : c.toNat = 101 ∨ c.toNat = 69
           · rw [if_pos hc] at h
             injection h with h
             exact exx h.symm hc
           · rw [if_neg hc] at h; cases h
theorem iR (l m : Bs) (hl : l.all dig = true) (hm : ∀ b, m.head? = some b → dig b = false) : run (l ++ m) = l.length := Dig.run_app l m hl hm
theorem dE (d u : Bs) (hd : d.all dig = true) (hu : ∀ b, u.head? = some b → dig b = false) : cutB (d ++ u) =
 if 1 < d.length ∧ d.head? = some 48 then none else
 if u = [] then some ⟨d, 0, false, 0, []⟩ else
 if d = [] then none else
 if u.head? = some 46 then cutP d u.tail else cutE d 0 u := by
 unfold cutB
 rw [iR d u hd hu, List.take_left, List.drop_left]
 by_cases h1 : 1 < d.length
 · have : (d ++ u).head? = d.head? := by cases d with | nil => simp at h1 | cons a t => rfl
   rw [this]
   have h2 : ¬ d.length = 0 := by omega
   have h3 : ¬ d = [] := fun e => by rw [e] at h1; simp at h1
   simp only [h2, h3, if_false]
 · have n1 : ¬ (1 < d.length ∧ (d ++ u).head? = some 48) := fun e => h1 e.1
   have n2 : ¬ (1 < d.length ∧ d.head? = some 48) := fun e => h1 e.1
   rw [if_neg n1, if_neg n2]
   have : (d.length = 0) = (d = []) := by simp
   simp only [this]
theorem iG (d f u : Bs) (hf : f.all dig = true) (hu : ∀ b, u.head? = some b → dig b = false) : cutP d (f ++ u) =
 if u = [] then some ⟨d ++ f, f.length, false, 0, []⟩ else if f = [] then none else cutE (d ++ f) f.length u := by
 unfold cutP
 rw [iR f u hf hu, List.take_left, List.drop_left]
 have : (f.length = 0) = (f = []) := by simp
 simp only [this]
theorem iX {eb : UInt8} (h : eb = 101 ∨ eb = 69) (t : Bs) : ∀ b, (eb :: t).head? = some b → dig b = false := by
 intro b hb
 injection hb with hb
 subst hb
 rcases h with rfl | rfl <;> rfl
theorem e_ne {eb : UInt8} (h : eb = 101 ∨ eb = 69) (t : Bs) : ¬ (eb :: t).head? = some 46 := by
 rcases h with rfl | rfl <;> simp
theorem oV {eb : UInt8} (h : eb = 101 ∨ eb = 69) (d : Bs) (m : Nat) (t : Bs) : cutE d m (eb :: t) = cutX d m t := by
 unfold cutE
 rw [if_pos (by rcases h with rfl | rfl <;> simp)]
 rfl
theorem fY {x : Bs} (hx : x.all dig = true) (k : UInt8) (hk : dig k = false) : ¬ x.head? = some k := by
 cases x with
 | nil => simp
 | cons a t =>
  intro e
  injection e with e
  subst e
  rw [List.all_cons, hk] at hx
  simp at hx
theorem xO (d : Bs) (m : Nat) (sg x : Bs) (hs : sg = [] ∨ sg = [45] ∨ sg = [43]) (hx : x.all dig = true) : cutX d m (sg ++ x) = some ⟨d, m, true, (if sg = [45] then 45 else if sg = [43] then 43 else 0), x⟩ := by
 unfold cutX
 rcases hs with rfl | rfl | rfl
 · rw [List.nil_append, if_neg (fY hx 45 rfl), if_neg (fY hx 43 rfl), if_pos hx]; rfl
 · simp [hx]
 · simp [hx]
theorem iH (neg : Bool) (t : Bs) (h : ¬ t.head? = some 45) : cutO ((if neg = true then [45] else []) ++ t) = cutB t := by
 unfold cutO
 cases neg with
 | true => simp
 | false => rw [show ((if false = true then [45] else []) ++ t : Bs) = t from rfl, if_neg h]
theorem qH (t : T) (v : t.V) (u : Bs) (hu : ¬ u.head? = some 45) (he : t.ex = true → t.tail ≠ []) : ¬ (t.man ++ u).head? = some 45 := by
 unfold T.man
 cases hd : t.d with
 | nil =>
  have : t.pt = false := by
   cases hp : t.pt with
   | false => rfl
   | true => exact absurd hd (v.pd hp)
  rw [this]
  simpa using hu
 | cons a b =>
  have := v.d
  rw [hd] at this
  intro e
  have e2 : a = 45 := by simpa using e
  subst e2
  rw [List.all_cons] at this
  simp [Dig.dig] at this
theorem qZ (t : T) (v : t.V) : cutO t.text = some t.parts := by
 have hh : ¬ (t.man ++ t.tail).head? = some 45 := by
  refine qH t v t.tail ?_ (fun e => by unfold T.tail; rw [if_pos e]; simp)
  unfold T.tail
  split
  · rename_i e
    obtain ⟨_, _, h⟩ := v.xd e
    rcases h with h | h <;> rw [h] <;> simp
  · simp
 unfold T.text
 rw [iH t.neg _ hh]
 obtain ⟨v1, v2, v3, v4, v5, v6, v7, v8, v9⟩ := v
 obtain ⟨neg, d, pt, f, ex, eb, sg, x⟩ := t
 simp only at v1 v2 v3 v4 v5 v6 v7 v8 v9
 simp only [T.man, T.tail, T.parts, T.sgn]
 cases ex with
 | false =>
  obtain ⟨rfl, rfl⟩ := v6 rfl
  cases pt with
  | false =>
   have := v5 rfl
   subst this
   have := dE d [] v1 (by simp)
   simp at this ⊢
   rw [this]
   exact if_neg v4
  | true =>
   have w1 := v7 rfl
   have h1 := dE d (46 :: f) v1 (fun b hb => by injection hb with hb; subst hb; rfl)
   have h2 := iG d f [] v2 (by simp)
   rw [if_neg v4, if_neg (by simp), if_neg w1, if_pos (by rfl)] at h1
   rw [List.append_nil, if_pos rfl] at h2
   simp only [if_true, if_neg (show ¬ (false = true) by simp), List.append_nil]
   rw [h1]
   exact h2
 | true =>
  obtain ⟨w1, w2, w3⟩ := v8 rfl
  have hX := fun m => xO (d ++ f) m sg x v9 v3
  cases pt with
  | false =>
   have := v5 rfl
   subst this
   have h1 := dE d (eb :: (sg ++ x)) v1 (iX w3 _)
   rw [if_neg v4, if_neg (by simp), if_neg w1, if_neg (e_ne w3 _), oV w3] at h1
   have := hX 0
   rw [List.append_nil] at this
   simp only [if_true, if_neg (show ¬ (false = true) by simp), List.append_nil]
   rw [h1, this]
   rfl
  | true =>
   have w4 := w2 rfl
   have h1 := dE d (46 :: (f ++ eb :: (sg ++ x))) v1 (fun b hb => by injection hb with hb; subst hb; rfl)
   have h2 := iG d f (eb :: (sg ++ x)) v2 (iX w3 _)
   rw [if_neg v4, if_neg (by simp), if_neg w1, if_pos (by rfl)] at h1
   rw [if_neg (by simp), if_neg w4, oV w3, hX] at h2
   simp only [if_true, List.append_assoc, List.cons_append]
   rw [h1]
   exact h2
theorem rA (d : Bs) (m : Nat) (c : UInt8) (h : ¬ (c.toNat = 101 ∨ c.toNat = 69)) : cutE d m [c] = none := by
 unfold cutE
 rw [if_neg]
 rintro (e | e) <;> injection e with e <;> subst e <;> exact h (by decide)
theorem lR (d : Bs) (m : Nat) (sg y : Bs) (hs : sg = [] ∨ sg = [45] ∨ sg = [43]) (hy : ¬ y.all dig = true) (hh : sg = [] → ¬ y.head? = some 45 ∧ ¬ y.head? = some 43) : cutX d m (sg ++ y) = none := by
 unfold cutX
 rcases hs with rfl | rfl | rfl
 · obtain ⟨h1, h2⟩ := hh rfl
   rw [List.nil_append, if_neg h1, if_neg h2, if_neg hy]
 · simpa using hy
 · simpa using hy
theorem fM (x : Bs) (c : UInt8) (h : dig c = false) : ¬ (x ++ [c]).all dig = true := by rw [List.all_append]; simp [h]
theorem lN {c : UInt8} (h : dig c = false) : ∀ b, ([c] : Bs).head? = some b → dig b = false := by
 intro b hb; injection hb with hb; subst hb; exact h
theorem cut_bad (t : T) (v : t.V) (c : UInt8) (h : next t.at_ c.toNat = none) : cutO (t.text ++ [c]) = none := by
 have hman := fun u hu => qH t v u hu
 obtain ⟨v1, v2, v3, v4, v5, v6, v7, v8, v9⟩ := v
 obtain ⟨neg, d, pt, f, ex, eb, sg, x⟩ := t
 simp only at v1 v2 v3 v4 v5 v6 v7 v8 v9
 unfold T.at_ at h
 simp only [T.man, T.tail] at hman
 simp only [T.text, T.man, T.tail]
 simp only at h
 cases ex with
 | true =>
  obtain ⟨w1, w2, w3⟩ := v8 rfl
  rw [if_pos rfl] at h
  have hx : ∀ d' m, cutX d' m (sg ++ (x ++ [c])) = none := by
   intro d' m
   by_cases hx : x = []
   · subst hx
     by_cases hs : sg = []
     · subst hs
       simp [next] at h
       split at h
       · cases h
       · rename_i h1
         split at h
         · cases h
         · rename_i h2
           refine lR d' m [] _ (.inl rfl) (fM [] c (fG h2)) (fun _ => ⟨fun e => ?_, fun e => ?_⟩)
           · injection e with e; subst e; exact h1 (.inl rfl)
           · injection e with e; subst e; exact h1 (.inr rfl)
     · simp [next, hs] at h
       exact lR d' m sg _ v9 (fM [] c (fG (by omega))) (fun e => absurd e hs)
   · simp [next, hx] at h
     refine lR d' m sg _ v9 (fM x c (fG (by omega))) (fun _ => ?_)
     cases x with
     | nil => exact absurd rfl hx
     | cons a r =>
      have := fY v3
      exact ⟨fun e => this 45 rfl e, fun e => this 43 rfl e⟩
  have e0 : (if neg = true then [45] else []) ++ ((d ++ if pt = true then 46 :: f else []) ++ (eb :: (sg ++ x))) ++ [c] = (if neg = true then [45] else []) ++ ((d ++ if pt = true then 46 :: f else []) ++ (eb :: (sg ++ (x ++ [c])))) := by simp
  simp only [if_true] at hman ⊢
  rw [e0, iH neg _ (hman _ (by rcases w3 with h | h <;> rw [h] <;> simp) (fun _ => by simp))]
  cases pt with
  | false =>
   have := v5 rfl
   subst this
   have h1 := dE d (eb :: (sg ++ (x ++ [c]))) v1 (iX w3 _)
   rw [if_neg v4, if_neg (by simp), if_neg w1, if_neg (e_ne w3 _), oV w3, hx] at h1
   simpa using h1
  | true =>
   have w4 := w2 rfl
   have h1 := dE d (46 :: (f ++ eb :: (sg ++ (x ++ [c])))) v1 (fun b hb => by injection hb with hb; subst hb; rfl)
   have h2 := iG d f (eb :: (sg ++ (x ++ [c]))) v2 (iX w3 _)
   rw [if_neg v4, if_neg (by simp), if_neg w1, if_pos (by rfl)] at h1
   rw [if_neg (by simp), if_neg w4, oV w3, hx] at h2
   simp only [if_true, List.append_assoc, List.cons_append]
   rw [h1]
   exact h2
 | false =>
  obtain ⟨rfl, rfl⟩ := v6 rfl
  rw [if_neg (by simp)] at h
  simp only [if_neg (show ¬ (false = true) by simp)] at hman ⊢
  cases pt with
  | true =>
   have w1 := v7 rfl
   rw [if_pos rfl] at h
   simp only [if_true] at hman ⊢
   have hc : ¬ (48 ≤ c.toNat ∧ c.toNat ≤ 57) := by
    by_cases hf : f = []
    · simp [next, hf] at h; omega
    · simp [next, hf] at h
      split at h
      · cases h
      · split at h
        · cases h
        · assumption
   have hE : f = [] ∨ cutE (d ++ f) f.length [c] = none := by
    by_cases hf : f = []
    · exact .inl hf
    · simp [next, hf] at h
      split at h
      · cases h
      · rename_i h2
        exact .inr (rA _ _ c h2)
   have e0 : (if neg = true then [45] else []) ++ ((d ++ 46 :: f) ++ []) ++ [c] = (if neg = true then [45] else []) ++ ((d ++ 46 :: f) ++ [c]) := by simp
   rw [e0, iH neg _ (by
    cases d with
    | nil => exact absurd rfl w1
    | cons a r =>
     intro e
     have e2 : a = 45 := by simpa using e
     subst e2
     rw [List.all_cons] at v1
     simp [Dig.dig] at v1)]
   have h1 := dE d (46 :: (f ++ [c])) v1 (fun b hb => by injection hb with hb; subst hb; rfl)
   have h2 := iG d f [c] v2 (lN (fG hc))
   rw [if_neg v4, if_neg (by simp), if_neg w1, if_pos (by rfl)] at h1
   rw [if_neg (by simp)] at h2
   have h3 : cutP d (f ++ [c]) = none := by
    rw [h2]
    rcases hE with hf | hE
    · rw [if_pos hf]
    · rw [hE]; split <;> rfl
   simp only [List.append_assoc, List.cons_append]
   rw [h1]
   exact h3
  | false =>
   have := v5 rfl
   subst this
   rw [if_neg (by simp)] at h
   simp only [if_neg (show ¬ (false = true) by simp), List.append_nil] at hman ⊢
   by_cases hd : d = []
   · subst hd
     rw [if_pos rfl] at h
     have key : dig c = false → cutB [c] = none := fun hc => by
      have := dE [] [c] rfl (lN hc)
      rw [List.nil_append] at this
      rw [this]
      simp
     cases neg with
     | true =>
      have hc : ¬ (48 ≤ c.toNat ∧ c.toNat ≤ 57) := fun hc => by
       simp [next, hc] at h
       split at h <;> cases h
      exact key (fG hc)
     | false =>
      have hc : ¬ (48 ≤ c.toNat ∧ c.toNat ≤ 57) := fun hc => by
       simp [next, hc] at h
       split at h
       · cases h
       · split at h <;> cases h
      have h45 : ¬ ([c] : Bs).head? = some 45 := by
       intro e; injection e with e; subst e; simp [next] at h
      show cutO [c] = none
      unfold cutO
      rw [if_neg h45]
      exact key (fG hc)
   · rw [if_neg hd] at h
     have hh : ∀ u : Bs, ¬ (d ++ u).head? = some 45 := fun u e => by
      cases d with
      | nil => exact absurd rfl hd
      | cons a r =>
       have e2 : a = 45 := by simpa using e
       subst e2
       rw [List.all_cons] at v1
       simp [Dig.dig] at v1
     rw [List.append_assoc, iH neg _ (hh [c])]
     by_cases hdc : 48 ≤ c.toNat ∧ c.toNat ≤ 57
     · have h48 : d.head? = some 48 := by
        by_cases hh : d.head? = some 48
        · exact hh
        · rw [if_neg hh] at h
          simp [next, hdc] at h
       have := dE (d ++ [c]) [] (by rw [List.all_append, v1]; simp [fJ hdc]) (by simp)
       rw [List.append_nil] at this
       rw [this, if_pos]
       refine ⟨?_, ?_⟩
       · have := List.length_pos_iff.2 hd
         rw [List.length_append]; simp; omega
       · cases d with
         | nil => exact absurd rfl hd
         | cons a r => simpa using h48
     · have hrest : ¬ c.toNat = 46 ∧ ¬ (c.toNat = 101 ∨ c.toNat = 69) := by
        by_cases hh : d.head? = some 48
        · rw [if_pos hh] at h
          simp [next] at h
          split at h
          · cases h
          · rename_i h1
            refine ⟨h1, fun h2 => ?_⟩
            simp [h2] at h
        · rw [if_neg hh] at h
          simp [next, hdc] at h
          split at h
          · cases h
          · rename_i h1
            refine ⟨h1, fun h2 => ?_⟩
            simp [h2] at h
       have := dE d [c] v1 (lN (fG hdc))
       rw [if_neg v4, if_neg (by simp), if_neg hd, if_neg (by intro e; injection e with e; subst e; exact hrest.1 rfl), rA _ _ c hrest.2] at this
       exact this
end Go.Proofs.YthdncmagfgoboaaGreatDoor.Num
end
