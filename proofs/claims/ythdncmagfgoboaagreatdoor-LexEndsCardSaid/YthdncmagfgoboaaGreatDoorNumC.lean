/-
  Numbers byte by byte: the parts of a text that begins a number, in plain Lean, and that the printed function tells them.
-/
import Derived.Test.YthdncmagfgoboaaGreatDoorNumR
import Derived.Test.YthdncmagfgoboaaGreatDoorXN21
namespace Go.Proofs.YthdncmagfgoboaaGreatDoor
open Go.RowKit
open Go.Proofs.YthdncmagfgoboaaGreatDoorW.PrintWords (mx mn bt)
set_option linter.unusedVariables false
set_option linter.unusedSimpArgs false
set_option maxRecDepth 10000

namespace Num
open Go.Proofs.YthdncmagfgoboaaGreatDoor.Dig (Bs run dig)

/-- behind the e -/
def cutX (d : Bs) (m : Nat) (t : Bs) : Option Parts :=
  if t.head? = some 45 then (if t.tail.all dig = true then some ⟨d, m, true, 45, t.tail⟩ else none) else
  if t.head? = some 43 then (if t.tail.all dig = true then some ⟨d, m, true, 43, t.tail⟩ else none) else
  if t.all dig = true then some ⟨d, m, true, 0, t⟩ else none

/-- at the e -/
def cutE (d : Bs) (m : Nat) (u : Bs) : Option Parts :=
  if u.head? = some 101 ∨ u.head? = some 69 then cutX d m u.tail else none

/-- behind the point -/
def cutP (d : Bs) (v : Bs) : Option Parts :=
  if v.drop (run v) = [] then some ⟨d ++ v.take (run v), run v, false, 0, []⟩ else
  if run v = 0 then none else cutE (d ++ v.take (run v)) (run v) (v.drop (run v))

/-- behind the sign -/
def cutB (t : Bs) : Option Parts :=
  if 1 < run t ∧ t.head? = some 48 then none else
  if t.drop (run t) = [] then some ⟨t.take (run t), 0, false, 0, []⟩ else
  if run t = 0 then none else
  if (t.drop (run t)).head? = some 46 then cutP (t.take (run t)) (t.drop (run t)).tail else cutE (t.take (run t)) 0 (t.drop (run t))

def cutO (s : Bs) : Option Parts := if s.head? = some 45 then cutB s.tail else cutB s
end Num

abbrev CutR := Option (ByteArray × Int × Bool × Int × ByteArray × Bool)
/-- the printed function says it -/
def Says (r : CutR) (o : Option Num.Parts) : Prop :=
  ∃ q : Num.Parts, r = some (str q.d, (q.behind : Int), q.e, (q.sign : Int), str q.x, o.isSome) ∧ ∀ P, o = some P → q = P
theorem says_some {r : CutR} (P : Num.Parts) (h : r = some (str P.d, (P.behind : Int), P.e, (P.sign : Int), str P.x, true)) : Says r (some P) :=
  ⟨P, h, fun _ e => by injection e⟩
theorem says_none {r : CutR} (d : List UInt8) (m : Nat) (e : Bool) (sg : Nat) (x : List UInt8) (h : r = some (str d, (m : Int), e, (sg : Int), str x, false)) : Says r none :=
  ⟨⟨d, m, e, sg, x⟩, h, fun _ e => by cases e⟩

theorem bt_at_str (l : List UInt8) (i : Nat) (c : UInt8) (h : l[i]? = some c) : bt (str l) (i : Int) = (c.toNat : Int) := by
  rw [bt_str, List.getD_eq_getElem?_getD, h]; rfl
theorem ext_mid (l : List UInt8) (i n : Nat) : (str l).extract ((i : Int)).toNat (((i + n : Nat) : Int)).toNat = str ((l.drop i).take n) := by
  rw [str_extract, Int.toNat_natCast, Int.toNat_natCast, Nat.add_sub_cancel_left]

theorem run_stop (l : List UInt8) (i : Nat) (hi : i + Dig.run (l.drop i) < l.length) : Dig.dig (l[i + Dig.run (l.drop i)]'hi) = false := by
  have h := Dig.run_end (l.drop i)
  rw [List.getElem?_drop] at h
  rcases h with h | ⟨b, hb, h⟩
  · rw [List.getElem?_eq_none_iff] at h; omega
  · rw [List.getElem?_eq_getElem hi] at hb
    injection hb with hb
    rw [hb]
    unfold Dig.dig
    simp
    omega

section
variable (l : List UInt8) (hl : l.length ≤ 1000000)
include hl

theorem wrap_succ (i : Nat) (h : i ≤ l.length) : wrap64 ((i : Int) + 1) = ((i + 1 : Nat) : Int) := by
  rw [wrap_id _ (by omega) (by omega)]; omega

theorem cut_l2 (d : List UInt8) (m sg : Nat) (x : List UInt8) : ∀ (f i : Nat), i + f = l.length → ∀ k, f < k →
    Says (XN2.orthoepyref11_cut.l2 k (str l) i (str d) m true sg (str x)) (if (l.drop i).all Dig.dig = true then some ⟨d, m, true, sg, x⟩ else none)
  | f, i, hi, 0, hk => absurd hk (by omega)
  | 0, i, hi, k + 1, hk => by
    simp only [XN2.orthoepyref11_cut.l2]
    have e : l.drop i = [] := List.drop_eq_nil_of_le (by omega)
    rw [e, str_size, if_neg (by omega), if_pos (by rfl)]
    exact says_some ⟨d, m, true, sg, x⟩ rfl
  | f + 1, i, hi, k + 1, hk => by
    simp only [XN2.orthoepyref11_cut.l2]
    have hlt : i < l.length := by omega
    have e : l.drop i = l[i] :: l.drop (i + 1) := List.drop_eq_getElem_cons hlt
    have eb := bt_at_str l i l[i] (by simp [hlt])
    rw [str_size, if_pos (by omega), if_pos (by omega), eb, wrap_succ l hl i (by omega), e, List.all_cons]
    by_cases h1 : (l[i]).toNat < 48
    · have hd : Dig.dig l[i] = false := by unfold Dig.dig; simp; omega
      rw [if_pos (by omega), hd, if_neg (by simp)]
      exact says_none d m true sg x rfl
    · rw [if_neg (by omega)]
      by_cases h2 : 57 < (l[i]).toNat
      · have hd : Dig.dig l[i] = false := by unfold Dig.dig; simp; omega
        rw [if_pos (by omega), hd, if_neg (by simp)]
        exact says_none d m true sg x rfl
      · have hd : Dig.dig l[i] = true := by unfold Dig.dig; simp; omega
        rw [if_neg (by omega), hd, Bool.true_and]
        exact cut_l2 d m sg x f (i + 1) (by omega) k (by omega)

theorem cut_j10 (d : List UInt8) (m sg : Nat) (x0 : List UInt8) (i : Nat) (hi : i ≤ l.length) (k : Nat) (hk : l.length + 2 ≤ k) :
    Says (XN2.orthoepyref11_cut.j10 k (str l) i (str d) m true sg (str x0)) (if (l.drop i).all Dig.dig = true then some ⟨d, m, true, sg, l.drop i⟩ else none) := by
  obtain ⟨k, rfl⟩ : ∃ j, k = j + 1 := ⟨k - 1, by omega⟩
  simp only [XN2.orthoepyref11_cut.j10]
  have e : (str l).extract ((i : Int)).toNat (str l).size = str (l.drop i) := by
    rw [str_extract, str_size]
    congr 1
    exact List.take_of_length_le (by simp)
  rw [str_size] at *
  rw [if_pos (by omega), if_pos (by omega), e]
  exact cut_l2 l hl d m sg (l.drop i) (l.length - i) i (by omega) k (by omega)

theorem cut_j9 (d : List UInt8) (m : Nat) (x0 : List UInt8) (i : Nat) (hi : i ≤ l.length) (k : Nat) (hk : l.length + 3 ≤ k) :
    Says (XN2.orthoepyref11_cut.j9 k (str l) i (decide (l[i]? = some 45 ∨ l[i]? = some 43)) (str d) m true 0 (str x0)) (Num.cutX d m (l.drop i)) := by
  obtain ⟨k, rfl⟩ : ∃ j, k = j + 1 := ⟨k - 1, by omega⟩
  simp only [XN2.orthoepyref11_cut.j9]
  unfold Num.cutX
  rw [List.head?_drop, List.tail_drop]
  by_cases h : l[i]? = some 45 ∨ l[i]? = some 43
  · have hlt : i < l.length := by rcases h with h | h <;> exact (List.getElem?_eq_some_iff.1 h).1
    rw [decide_eq_true h, if_pos rfl, str_size, if_pos (by omega), if_pos (by omega), wrap_succ l hl i (by omega)]
    rcases h with h | h
    · rw [if_pos h, bt_at_str l i 45 h]
      exact cut_j10 l hl d m 45 x0 (i + 1) (by omega) k (by omega)
    · rw [if_neg (by rw [h]; simp), if_pos h, bt_at_str l i 43 h]
      exact cut_j10 l hl d m 43 x0 (i + 1) (by omega) k (by omega)
  · have h1 : ¬ l[i]? = some 45 := fun e => h (Or.inl e)
    have h2 : ¬ l[i]? = some 43 := fun e => h (Or.inr e)
    rw [decide_eq_false h, if_neg (by simp), if_neg h1, if_neg h2]
    exact cut_j10 l hl d m 0 x0 i hi k (by omega)

theorem cut_j8 (d : List UInt8) (m : Nat) (x0 : List UInt8) (i : Nat) (hi : i < l.length) (k : Nat) (hk : l.length + 4 ≤ k) :
    Says (XN2.orthoepyref11_cut.j8 k (str l) i false (str d) m false 0 (str x0)) (Num.cutX d m (l.drop (i + 1))) := by
  obtain ⟨k, rfl⟩ : ∃ j, k = j + 1 := ⟨k - 1, by omega⟩
  simp only [XN2.orthoepyref11_cut.j8]
  have key := cut_j9 l hl d m x0 (i + 1) (by omega) k (by omega)
  rw [if_neg (by simp), wrap_succ l hl i (by omega), str_size]
  by_cases hlt : i + 1 < l.length
  · have hc : l[i + 1]? = some (l[i + 1]) := by simp [hlt]
    rw [if_pos (by omega), if_pos (by omega), bt_at_str l (i + 1) _ hc]
    rw [hc] at key
    by_cases h1 : l[i + 1] = 45
    · rw [h1] at key
      have e0 : ((l[i + 1]).toNat : Int) = 45 := by rw [h1]; rfl
      rw [if_pos e0]
      simpa using key
    · have e0 : ¬ ((l[i + 1]).toNat : Int) = 45 := fun e => h1 (UInt8.toNat_inj.1 (by show _ = 45; omega))
      have e1 : (((l[i + 1]).toNat : Int) == 43) = decide (l[i + 1] = 43) := by
        rw [Bool.eq_iff_iff, beq_iff_eq, decide_eq_true_eq]
        exact ⟨fun e => UInt8.toNat_inj.1 (by show _ = 43; omega), fun e => by rw [e]; rfl⟩
      rw [if_neg e0, e1]
      simpa [h1] using key
  · rw [if_neg (by omega)]
    rw [List.getElem?_eq_none (by omega)] at key
    simpa using key

theorem cut_j7 (d : List UInt8) (m : Nat) (x0 : List UInt8) (i : Nat) (hi : i < l.length) (k : Nat) (hk : l.length + 5 ≤ k) :
    Says (XN2.orthoepyref11_cut.j7 k (str l) i (str d) m false 0 (str x0)) (Num.cutE d m (l.drop i)) := by
  obtain ⟨k, rfl⟩ : ∃ j, k = j + 1 := ⟨k - 1, by omega⟩
  simp only [XN2.orthoepyref11_cut.j7]
  unfold Num.cutE
  have hc : l[i]? = some (l[i]) := by simp [hi]
  have key := cut_j8 l hl d m x0 i hi k (by omega)
  rw [str_size, if_pos (by omega), if_pos (by omega), bt_at_str l i _ hc, List.head?_drop, List.tail_drop, hc]
  by_cases h1 : l[i] = 101
  · rw [if_pos (by rw [h1]; rfl), if_pos (Or.inl (by rw [h1]))]
    exact key
  · have e0 : ¬ ((l[i]).toNat : Int) = 101 := fun e => h1 (UInt8.toNat_inj.1 (by show _ = 101; omega))
    rw [if_neg e0]
    by_cases h2 : l[i] = 69
    · have e1 : (((l[i]).toNat : Int) != 69) = false := by rw [h2]; rfl
      rw [e1, if_pos (Or.inr (by rw [h2]))]
      exact key
    · have e1 : (((l[i]).toNat : Int) != 69) = true := by
        rw [bne_iff_ne]
        exact fun e => h2 (UInt8.toNat_inj.1 (by show _ = 69; omega))
      rw [e1, if_neg (by simp [h1, h2])]
      obtain ⟨k, rfl⟩ : ∃ j, k = j + 1 := ⟨k - 1, by omega⟩
      simp only [XN2.orthoepyref11_cut.j8]
      exact says_none d m false 0 x0 rfl

theorem cut_j6 (d : List UInt8) (i n : Nat) (hd : d.length ≤ 1000000) (hn : n = Dig.run (l.drop i)) (hin : i + n ≤ l.length) (k : Nat) (hk : l.length + 6 ≤ k) :
    Says (XN2.orthoepyref11_cut.j6 k (str l) ((i + n : Nat) : Int) i (str d) 0 false 0 (str [])) (Num.cutP d (l.drop i)) := by
  obtain ⟨k, rfl⟩ : ∃ j, k = j + 1 := ⟨k - 1, by omega⟩
  simp only [XN2.orthoepyref11_cut.j6]
  have e1 : wrap64 (((i + n : Nat) : Int) - i) = (n : Int) := by rw [wrap_id _ (by omega) (by omega)]; omega
  have e2 : (str d) ++ str ((l.drop i).take n) = str (d ++ (l.drop i).take n) := str_append _ _
  have e3 : ((l.drop i).take n).length = n := by rw [List.length_take, List.length_drop]; omega
  rw [ext_mid l i n, e1, e2]
  rw [if_pos (by omega), if_pos (by omega), str_size, if_pos (by omega), if_pos (by rw [str_size, str_size, e3]; omega)]
  unfold Num.cutP
  rw [← hn, List.drop_drop]
  by_cases h1 : i + n = l.length
  · rw [if_pos (by omega), if_pos (List.drop_eq_nil_of_le (by omega))]
    exact says_some ⟨d ++ (l.drop i).take n, n, false, 0, []⟩ rfl
  · have hne : ¬ l.drop (i + n) = [] := by rw [List.drop_eq_nil_iff]; omega
    rw [if_neg (by omega), if_neg hne]
    by_cases h2 : n = 0
    · rw [if_pos (by omega), if_pos h2]
      exact says_none (d ++ (l.drop i).take n) n false 0 [] rfl
    · rw [if_neg (by omega), if_neg h2]
      exact cut_j7 l hl _ n [] (i + n) (by omega) k (by omega)

theorem cut_l1 (d : List UInt8) (i n : Nat) (hd : d.length ≤ 1000000) (hn : n = Dig.run (l.drop i)) (hin : i + n ≤ l.length) : ∀ (f s : Nat), s + f = n → ∀ k, l.length + 7 + f ≤ k →
    Says (XN2.orthoepyref11_cut.l1 k (str l) ((i + s : Nat) : Int) i (str d) 0 false 0 (str [])) (Num.cutP d (l.drop i))
  | f, s, hs, 0, hk => absurd hk (by omega)
  | 0, s, hs, k + 1, hk => by
    obtain rfl : s = n := by omega
    have key := cut_j6 l hl d i s hd hn hin k (by omega)
    simp only [XN2.orthoepyref11_cut.l1]
    rw [str_size]
    by_cases hlt : i + s < l.length
    · have hstop := run_stop l i (by rw [← hn]; exact hlt)
      have hc : l[i + s]? = some (l[i + s]) := by simp [hlt]
      have hc2 : Dig.dig (l[i + s]) = false := by simp only [hn]; exact hstop
      rw [if_pos (by omega), if_pos (by omega), bt_at_str l (i + s) _ hc]
      have h2 : ¬ (48 ≤ (l[i + s]).toNat ∧ (l[i + s]).toNat ≤ 57) := by unfold Dig.dig at hc2; simp at hc2; omega
      by_cases h3 : 48 ≤ (l[i + s]).toNat
      · rw [if_pos (by omega), if_neg (by omega)]; exact key
      · rw [if_neg (by omega)]; exact key
    · rw [if_neg (by omega)]; exact key
  | f + 1, s, hs, k + 1, hk => by
    obtain ⟨c, hc0, hc1, hc2⟩ := Dig.run_lt (l.drop i) s (by omega)
    rw [List.getElem?_drop] at hc0
    have hlt := (List.getElem?_eq_some_iff.1 hc0).1
    simp only [XN2.orthoepyref11_cut.l1]
    rw [str_size, if_pos (by omega), if_pos (by omega), bt_at_str l (i + s) c hc0, if_pos (by omega), if_pos (by omega), wrap_succ l hl (i + s) (by omega)]
    exact cut_l1 d i n hd hn hin f (s + 1) (by omega) k (by omega)

theorem cut_j4 (i n : Nat) (hn : n = Dig.run (l.drop i)) (hin : i + n ≤ l.length) (k : Nat) (hk : 3 * l.length + 20 ≤ k) :
    Says (XN2.orthoepyref11_cut.j4 k (str l) ((i + n : Nat) : Int) i (decide (1 < n ∧ l[i]? = some 48)) (str []) 0 false 0 (str [])) (Num.cutB (l.drop i)) := by
  obtain ⟨k, rfl⟩ : ∃ j, k = j + 1 := ⟨k - 1, by omega⟩
  simp only [XN2.orthoepyref11_cut.j4]
  unfold Num.cutB
  rw [← hn, List.head?_drop, List.drop_drop, List.tail_drop]
  by_cases h0 : 1 < n ∧ l[i]? = some 48
  · rw [decide_eq_true h0, if_pos rfl, if_pos h0]
    exact says_none [] 0 false 0 [] rfl
  · rw [decide_eq_false h0, if_neg (by simp), if_neg h0, ext_mid l i n]
    have e3 : ((l.drop i).take n).length = n := by rw [List.length_take, List.length_drop]; omega
    rw [if_pos (by omega), if_pos (by omega), str_size, if_pos (by omega)]
    by_cases h1 : i + n = l.length
    · rw [if_pos (by omega), if_pos (List.drop_eq_nil_of_le (by omega))]
      exact says_some ⟨(l.drop i).take n, 0, false, 0, []⟩ rfl
    · have hne : ¬ l.drop (i + n) = [] := by rw [List.drop_eq_nil_iff]; omega
      have hlt : i + n < l.length := by omega
      rw [if_neg (by omega), if_neg hne, str_size, e3]
      by_cases h2 : n = 0
      · rw [if_pos (by omega), if_pos h2]
        exact says_none ((l.drop i).take n) 0 false 0 [] rfl
      · have hc : l[i + n]? = some (l[i + n]) := by simp [hlt]
        rw [if_neg (by omega), if_neg h2, if_pos (by omega), if_pos (by omega), bt_at_str l (i + n) _ hc, List.head?_drop, hc]
        by_cases h3 : l[i + n] = 46
        · rw [if_pos (by rw [h3]; rfl), if_pos (by rw [h3]), wrap_succ l hl (i + n) (by omega)]
          have hrun := Dig.run_le (l.drop (i + n + 1))
          rw [List.length_drop] at hrun
          have := cut_l1 l hl ((l.drop i).take n) (i + n + 1) (Dig.run (l.drop (i + n + 1))) (by omega) rfl (by omega) (Dig.run (l.drop (i + n + 1))) 0 (by omega) k (by omega)
          exact this
        · have e0 : ¬ ((l[i + n]).toNat : Int) = 46 := fun e => h3 (UInt8.toNat_inj.1 (by show _ = 46; omega))
          rw [if_neg e0, if_neg (by simp [h3])]
          exact cut_j7 l hl _ 0 [] (i + n) hlt k (by omega)

theorem cut_j3 (i n : Nat) (hn : n = Dig.run (l.drop i)) (hin : i + n ≤ l.length) (k : Nat) (hk : 3 * l.length + 21 ≤ k) :
    Says (XN2.orthoepyref11_cut.j3 k (str l) ((i + n : Nat) : Int) i (str []) 0 false 0 (str [])) (Num.cutB (l.drop i)) := by
  obtain ⟨k, rfl⟩ : ∃ j, k = j + 1 := ⟨k - 1, by omega⟩
  simp only [XN2.orthoepyref11_cut.j3]
  have e1 : wrap64 (((i + n : Nat) : Int) - i) = (n : Int) := by rw [wrap_id _ (by omega) (by omega)]; omega
  have key := cut_j4 l hl i n hn hin k (by omega)
  rw [e1, str_size]
  by_cases h1 : 1 < n
  · have hlt : i < l.length := by omega
    have hc : l[i]? = some (l[i]) := by simp [hlt]
    rw [if_pos (by omega), if_pos (by omega), if_pos (by omega), bt_at_str l i _ hc]
    have e2 : (((l[i]).toNat : Int) == 48) = decide (1 < n ∧ l[i]? = some 48) := by
      rw [hc, Bool.eq_iff_iff, beq_iff_eq, decide_eq_true_eq]
      exact ⟨fun e => ⟨h1, by congr 1; exact UInt8.toNat_inj.1 (by show _ = 48; omega)⟩, fun e => by injection e.2 with e; rw [e]; rfl⟩
    rw [e2]
    exact key
  · rw [if_neg (by omega)]
    rw [decide_eq_false (fun e => h1 e.1)] at key
    exact key

theorem cut_l0 (i n : Nat) (hn : n = Dig.run (l.drop i)) (hin : i + n ≤ l.length) : ∀ (f s : Nat), s + f = n → ∀ k, 3 * l.length + 22 + f ≤ k →
    Says (XN2.orthoepyref11_cut.l0 k (str l) ((i + s : Nat) : Int) i (str []) 0 false 0 (str [])) (Num.cutB (l.drop i))
  | f, s, hs, 0, hk => absurd hk (by omega)
  | 0, s, hs, k + 1, hk => by
    obtain rfl : s = n := by omega
    have key := cut_j3 l hl i s hn hin k (by omega)
    simp only [XN2.orthoepyref11_cut.l0]
    rw [str_size]
    by_cases hlt : i + s < l.length
    · have hstop := run_stop l i (by rw [← hn]; exact hlt)
      have hc : l[i + s]? = some (l[i + s]) := by simp [hlt]
      have hc2 : Dig.dig (l[i + s]) = false := by simp only [hn]; exact hstop
      rw [if_pos (by omega), if_pos (by omega), bt_at_str l (i + s) _ hc]
      have h2 : ¬ (48 ≤ (l[i + s]).toNat ∧ (l[i + s]).toNat ≤ 57) := by unfold Dig.dig at hc2; simp at hc2; omega
      by_cases h3 : 48 ≤ (l[i + s]).toNat
      · rw [if_pos (by omega), if_neg (by omega)]; exact key
      · rw [if_neg (by omega)]; exact key
    · rw [if_neg (by omega)]; exact key
  | f + 1, s, hs, k + 1, hk => by
    obtain ⟨c, hc0, hc1, hc2⟩ := Dig.run_lt (l.drop i) s (by omega)
    rw [List.getElem?_drop] at hc0
    have hlt := (List.getElem?_eq_some_iff.1 hc0).1
    simp only [XN2.orthoepyref11_cut.l0]
    rw [str_size, if_pos (by omega), if_pos (by omega), bt_at_str l (i + s) c hc0, if_pos (by omega), if_pos (by omega), wrap_succ l hl (i + s) (by omega)]
    exact cut_l0 i n hn hin f (s + 1) (by omega) k (by omega)

theorem cut_f : Says (XN2.orthoepyref11_cut.f (4 * l.length + 40) (str l)) (Num.cutO l) := by
  unfold XN2.orthoepyref11_cut.f
  have hrun : ∀ i, i ≤ l.length → i + Dig.run (l.drop i) ≤ l.length := fun i hi => by
    have := Dig.run_le (l.drop i)
    rw [List.length_drop] at this
    omega
  have key : ∀ i, i ≤ l.length → ∀ k, 4 * l.length + 30 ≤ k → Says (XN2.orthoepyref11_cut.j1 k (str l) i (str []) 0 false 0 (str [])) (Num.cutB (l.drop i)) := fun i hi k hk => by
    obtain ⟨k, rfl⟩ : ∃ j, k = j + 1 := ⟨k - 1, by omega⟩
    simp only [XN2.orthoepyref11_cut.j1]
    have := hrun i hi
    exact cut_l0 l hl i (Dig.run (l.drop i)) rfl this (Dig.run (l.drop i)) 0 (by omega) k (by omega)
  have j0 : ∀ b : Bool, (b = true ↔ l.head? = some 45) → Says (XN2.orthoepyref11_cut.j0 (4 * l.length + 40) (str l) 0 b (str []) 0 false 0 (str [])) (Num.cutO l) := fun b hb => by
    unfold Num.cutO
    rw [show 4 * l.length + 40 = (4 * l.length + 39) + 1 from rfl]
    simp only [XN2.orthoepyref11_cut.j0]
    cases b with
    | true =>
      have h := hb.1 rfl
      have hlt : 1 ≤ l.length := by
        cases l with
        | nil => simp at h
        | cons c t => simp
      rw [if_pos rfl, if_pos h]
      have := key 1 hlt (4 * l.length + 39) (by omega)
      rw [show l.tail = l.drop 1 from (List.drop_one).symm]
      have e : wrap64 (0 + 1) = ((1 : Nat) : Int) := by unfold wrap64; rfl
      rw [e]
      exact this
    | false =>
      have h : ¬ l.head? = some 45 := fun e => by have := hb.2 e; cases this
      rw [if_neg (by simp), if_neg h]
      exact key 0 (by omega) (4 * l.length + 39) (by omega)
  have : Says (if 0 < ((str l).size : Int) then XN2.orthoepyref11_cut.j0 (4 * l.length + 40) (str l) 0 (bt (str l) 0 == 45) (str []) 0 false 0 (str []) else XN2.orthoepyref11_cut.j0 (4 * l.length + 40) (str l) 0 false (str []) 0 false 0 (str [])) (Num.cutO l) := by
    rw [str_size]
    by_cases h0 : 0 < l.length
    · have hc : l[0]? = some (l[0]) := by simp [h0]
      have e0 : bt (str l) 0 = ((l[0]).toNat : Int) := bt_at_str l 0 _ hc
      rw [if_pos (by omega), e0]
      refine j0 _ ?_
      rw [List.head?_eq_getElem?, hc, beq_iff_eq]
      exact ⟨fun e => by congr 1; exact UInt8.toNat_inj.1 (by show _ = 45; omega), fun e => by injection e with e; rw [e]; rfl⟩
    · rw [if_neg (by omega)]
      exact j0 false (by rw [List.head?_eq_getElem?, List.getElem?_eq_none (by omega)]; simp)
  exact this
end
end Go.Proofs.YthdncmagfgoboaaGreatDoor
