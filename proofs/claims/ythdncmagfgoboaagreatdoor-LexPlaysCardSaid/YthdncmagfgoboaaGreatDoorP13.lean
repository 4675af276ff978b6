/- One of the texts that lead to the theorem lexPlays.proved: the conditions stand in each theorem. -/
import Derived.Test.YthdncmagfgoboaaGreatDoorP2
import Derived.Test.YthdncmagfgoboaaGreatDoorP12
import Derived.Test.YthdncmagfgoboaaGreatDoorP8
import Derived.Test.YthdncmagfgoboaaGreatDoorProg
import Derived.Below
import Derived.Deep.Draws
import Derived.Deep.AppendLies
import Derived.Maps.AppendAt
import Derived.OwnWalk
import Derived.Laws.BytesArg
import Derived.Laws.MakeOwn
import Derived.Laws.OwnMore
import Derived.Deep.OwnRows
import Derived.Tactics
import Derived.Lib.ConvBytes
import Derived.Laws.Slices
import Derived.WalkKit
import Derived.KernelRfl
import Derived.RowKit3
import Derived.Deep.LoopGhost
import Derived.Deep.QuietTactic
import Derived.BigQuiet
import Derived.WideLaws
import Derived.Deep.DeepCutAuto
import Derived.Deep.CutBlock
import Derived.Deep.RegionHeld3
import Derived.Laws.Rows
import Derived.Lib.AppendStr
import Derived.ArgAppend
import Derived.Laws.IdiomCopy
import Derived.OrdersHeld
import Derived.Laws.BitsLemmas
import Derived.RowKit
import Derived.Test.YthdncmagfgoboaaGreatDoorP7
import Derived.Test.YthdncmagfgoboaaGreatDoorP0
import Derived.Test.YthdncmagfgoboaaGreatDoorP3
import Derived.Test.YthdncmagfgoboaaGreatDoorP4
set_option linter.unusedSimpArgs false
set_option linter.unusedVariables false
section
namespace Go.Proofs.YthdncmagfgoboaaGreatDoor
open Go.RowKit
open Go.Proofs.YthdncmagfgoboaaGreatDoorW.PrintWords (mx mn bt)
namespace Num
open Go.Proofs.YthdncmagfgoboaaGreatDoor.Dig (Bs)
structure Parts where
 d : Bs
 behind : Nat
 e : Bool
 sign : Nat
 x : Bs
def standsL (s : Bs) : Bs := (s.reverse.dropWhile fun c => !Dig.dig c).reverse
def has (x : Bs) (a b : Int) : Bool :=
 let y := Dig.cutL x
 if y = [] then decide (max a 0 ≤ b) else
 if 9 < y.length then false else meets 12 (Dig.val y) (Dig.val y) (max a 0) b
def moreN : Nat → Bs → Nat → Nat
 | 0, _, k => k
 | f + 1, d, k => if k < 16 then (if (Dig.int ⟨false, d, k + 1⟩).2 = 0 then moreN f d (k + 1) else k) else k
def mayP (p : Parts) : Bool :=
 let d := Dig.norm ⟨false, p.d, -p.behind⟩
 if d.d = [] then true else
 if (Dig.int ⟨false, d.d, 0⟩).2 ≠ 0 then false else
 if p.e = false ∨ (p.sign = 0 ∧ p.x = []) then true else
 if p.sign = 45 then has p.x (d.e - moreN 17 d.d 0) d.e else has p.x (-d.e) (-d.e + moreN 17 d.d 0)
theorem norm_e_small (x : Dig.Dec) : (Dig.norm x).e = 0 ∨ (x.e ≤ (Dig.norm x).e ∧ (Dig.norm x).e ≤ x.e + x.d.length) := by
 unfold Dig.norm
 split
 · exact .inl rfl
 · refine .inr ?_
   have h1 := Dig.cutL_le x.d
   have h2 : (Dig.core x.d).length ≤ (Dig.cutL x.d).length := Dig.cutR_le _
   dsimp only
   omega
end Num
theorem pB (l : List UInt8) (i : Nat) : bt (str l) i = ((l.getD i 0).toNat : Int) := by
 unfold bt
 by_cases h : i < l.length
 · rw [dif_pos (show (i : Int).toNat < (str l).size from h)]
   rw [sQ]
   simp [List.getElem?_eq_getElem h]
 · rw [dif_neg (show ¬ (i : Int).toNat < (str l).size from h)]
   rw [List.getD_eq_getElem?_getD, List.getElem?_eq_none (by omega)]
   rfl
theorem cS (n : Int) (h1 : -9223372036854775808 ≤ n) (h2 : n ≤ 9223372036854775807) : wrap64 n = n := by unfold wrap64; omega
theorem mJ : ∀ (k : Nat) (l : List UInt8), l.length < k → l.length ≤ 1000000000 → XN1.orthoepyref11_stands.l0 k (str l) = some (str (Num.standsL l))
 | 0, l, h, _ => absurd h (by omega)
 | k + 1, l, h, hm => by
  unfold XN1.orthoepyref11_stands.l0
  rw [aR]
  rcases List.eq_nil_or_concat l with rfl | ⟨t, c, rfl⟩
  · rw [if_neg (by simp)]; rfl
  · rw [List.concat_eq_append] at *
    have hl : (t ++ [c]).length = t.length + 1 := by simp
    rw [hl] at h hm
    have e1 : wrap64 (((t ++ [c]).length : Int) - 1) = (t.length : Int) := by rw [cS _ (by omega) (by omega)]; omega
    have e2 : bt (str (t ++ [c])) (t.length : Int) = (c.toNat : Int) := by rw [pB]; simp
    have e3 : (str (t ++ [c])).extract 0 ((t.length : Int)).toNat = str t := by rw [cW]; simp
    have e4 : Num.standsL (t ++ [c]) = if Dig.dig c = true then t ++ [c] else Num.standsL t := by
     unfold Num.standsL
     rw [List.reverse_append, List.reverse_singleton, List.singleton_append, List.dropWhile_cons]
     cases hc : Dig.dig c <;> simp
    rw [e1, e2, e3, if_pos (by omega), if_pos (by omega), if_pos (by omega), e4]
    have ih := mJ k t (by omega) (by omega)
    by_cases h1 : c.toNat < 48
    · rw [if_pos (by omega), if_pos (by omega), ih, if_neg (by unfold Dig.dig; simp; omega)]
    · rw [if_neg (by omega)]
      by_cases h2 : 57 < c.toNat
      · rw [if_pos (by omega), if_pos (by omega), ih, if_neg (by unfold Dig.dig; simp; omega)]
      · rw [if_neg (by omega), if_pos (by unfold Dig.dig; simp; omega)]
theorem uD (a b : Int) (h : b < 0) : ∀ f low high, Num.meets f low high a b = false
 | 0, _, _ => rfl
 | f + 1, low, high => by unfold Num.meets; rw [if_neg (by omega)]
theorem xA (a b : Int) (ha : 0 ≤ a) (hb : b ≤ 10000000) : ∀ (f low high : Nat) (k : Nat), f < k → 1 ≤ low → low ≤ high → high < 2 * low → 10000000 < low * 10 ^ f →
 XN1.orthoepyref11_has.l2 k a b low high = some (Num.meets f low high a b)
 | f, low, high, 0, hk, _, _, _, _ => absurd hk (by omega)
 | 0, low, high, k + 1, hk, h1, h0, h2, h4 => by
  unfold XN1.orthoepyref11_has.l2 Num.meets
  rw [if_neg (by omega)]
 | f + 1, low, high, k + 1, hk, h1, h0, h2, h4 => by
  unfold XN1.orthoepyref11_has.l2 Num.meets
  by_cases h3 : (low : Int) ≤ b
  · rw [if_pos h3, if_pos h3]
    by_cases h5 : a ≤ (high : Int)
    · rw [if_pos h5, if_pos (by omega)]
    · rw [if_neg h5, if_neg (by omega)]
      have e1 : wrap64 (10 * (low : Int)) = ((10 * low : Nat) : Int) := by rw [cS _ (by omega) (by omega)]; omega
      have e2 : wrap64 (wrap64 (10 * (high : Int)) + 9) = ((10 * high + 9 : Nat) : Int) := by rw [cS (10 * (high : Int)) (by omega) (by omega), cS _ (by omega) (by omega)]; omega
      rw [e1, e2]
      exact xA a b ha hb f (10 * low) (10 * high + 9) k (by omega) (by omega) (by omega) (by omega) (by rw [Nat.pow_succ] at h4; rw [show 10 * low * 10 ^ f = low * (10 ^ f * 10) by rw [Nat.mul_comm 10 low, Nat.mul_assoc, Nat.mul_comm 10]]; exact h4)
  · rw [if_neg h3, if_neg h3]
theorem vB (y : List UInt8) (h : y.all Dig.dig = true) (hl : y.length ≤ 9) : Dig.val y < 1000000000 := by
 have := Dig.val_lt y h
 have h2 : 10 ^ y.length ≤ 10 ^ 9 := Nat.pow_le_pow_right (by omega) hl
 omega
theorem xB (y : List UInt8) (a b : Int) (hy : y.all Dig.dig = true) (hl : y.length ≤ 9) (r : Option Bool) (k0 : Nat)
 (hr : ∀ k, k0 ≤ k → XN1.orthoepyref11_has.l2 k a b (Dig.val y) (Dig.val y) = r) : ∀ (n : Nat) (i : Nat), i + n = y.length → ∀ k, k0 + n + 1 ≤ k →
 XN1.orthoepyref11_has.l1 k (str y) a b (Dig.val (y.take i)) i = r
 | n, i, hi, 0, hk => absurd hk (by omega)
 | 0, i, hi, k + 1, hk => by
  unfold XN1.orthoepyref11_has.l1
  rw [aR, if_neg (by omega), List.take_of_length_le (by omega)]
  exact hr k (by omega)
 | n + 1, i, hi, k + 1, hk => by
  unfold XN1.orthoepyref11_has.l1
  have hlt : i < y.length := by omega
  rw [aR, if_pos (by omega), if_pos (by omega), pB]
  have hd := Dig.dig_le (y[i]) (Dig.all_mem y i _ hy (by simp [hlt]))
  have e1 : y.getD i 0 = y[i] := by rw [List.getD_eq_getElem?_getD, List.getElem?_eq_getElem hlt]; rfl
  have hv : Dig.val (y.take i) < 1000000000 := vB _ (Dig.take_all y i hy) (by rw [List.length_take]; omega)
  have e2 : wrap64 (wrap64 (10 * (Dig.val (y.take i) : Int)) + ((((y.getD i 0).toNat : Int)) - 48) % 256) = (Dig.val (y.take (i + 1)) : Int) := by
   rw [e1, List.take_succ_eq_append_getElem hlt, Dig.val_snoc, cS (10 * _) (by omega) (by omega), cS _ (by omega) (by omega)]
   omega
  have e3 : wrap64 ((i : Int) + 1) = ((i + 1 : Nat) : Int) := by rw [cS _ (by omega) (by omega)]; omega
  rw [e2, e3]
  exact xB y a b hy hl r k0 hr n (i + 1) (by omega) k (by omega)
theorem sJ (a b : Int) (ha : -10000000 ≤ a) (ha' : a ≤ 10000000) (hb : b ≤ 10000000) : ∀ (x : List UInt8) (k : Nat), x.all Dig.dig = true → x.length ≤ 1000000 → x.length + 40 ≤ k →
 XN1.orthoepyref11_has.f k (str x) a b = some (Num.has x a b)
 | x, 0, _, _, hk => absurd hk (by omega)
 | [], k + 1, hx, hl, hk => by
  unfold XN1.orthoepyref11_has.f XN1.orthoepyref11_has.l0
  rw [aR, if_neg (by simp)]
  obtain ⟨k, rfl⟩ : ∃ j, k = j + 1 := ⟨k - 1, by omega⟩
  simp only [XN1.orthoepyref11_has.j1]
  rw [aR, if_pos (show (([] : List UInt8).length : Int) = 0 from rfl)]
  have hm : mx a 0 = max a 0 := by unfold mx; split <;> omega
  rw [hm]
  rfl
 | c :: x, k + 1, hx, hl, hk => by
  rw [List.length_cons] at hl hk
  unfold XN1.orthoepyref11_has.f XN1.orthoepyref11_has.l0
  have e0 : bt (str (c :: x)) 0 = (c.toNat : Int) := pB (c :: x) 0
  rw [aR, List.length_cons, if_pos (by omega), if_pos (by omega), e0]
  by_cases hc : c = 48
  · subst hc
    rw [if_pos (by rfl), if_pos (by omega)]
    have e2 : (str (48 :: x)).extract 1 (x.length + 1) = str x := by rw [cW]; simp
    rw [e2]
    have := sJ a b ha ha' hb x k (by simp at hx; simpa using hx.2) (by omega) (by omega)
    unfold XN1.orthoepyref11_has.f at this
    rw [this]
    have e3 : Dig.cutL (48 :: x) = Dig.cutL x := Dig.cutL_front 1 x
    unfold Num.has
    rw [e3]
  · have hc2 : c.toNat ≠ 48 := fun e => hc (UInt8.toNat_inj.1 (by rw [e]; rfl))
    rw [if_neg (by show ¬ ((c.toNat : Int) = 48); omega)]
    have hcut : Dig.cutL (c :: x) = c :: x := Dig.cutL_of_head _ (by simpa using hc)
    obtain ⟨k, rfl⟩ : ∃ j, k = j + 1 := ⟨k - 1, by omega⟩
    simp only [XN1.orthoepyref11_has.j1]
    unfold Num.has
    have hm : mx a 0 = max a 0 := by unfold mx; split <;> omega
    have q0 : ¬ (((c :: x).length : Int) = 0) := by simp; omega
    dsimp only
    rw [aR, hcut, hm, if_neg q0, if_neg (List.cons_ne_nil c x)]
    by_cases h9 : 9 < (c :: x).length
    · rw [if_pos (by omega), if_pos h9]
    · rw [if_neg (by omega), if_neg h9]
      have hv1 : 1 ≤ Dig.val (c :: x) := by
       have := Dig.val_ge (c :: x) (by simp) hx (by simpa using hc)
       have h3 : 0 < 10 ^ ((c :: x).length - 1) := Nat.pow_pos (by omega)
       omega
      have key := xB (c :: x) (max a 0) b hx (by omega) (some (Num.meets 12 (Dig.val (c :: x)) (Dig.val (c :: x)) (max a 0) b)) 13 (fun k hk => by
       exact xA (max a 0) b (by omega) hb 12 _ _ k (by omega) hv1 (Nat.le_refl _) (by omega) (by omega)) (c :: x).length 0 (by omega) k (by rw [List.length_cons] at h9 ⊢; omega)
      simpa [Dig.val] using key
theorem rnorm_f (s : Bool) (d : List UInt8) (e : Int) (hl : d.length ≤ 1000000000000) (he : e ≤ 1000000000000) (he' : -1000000000000 ≤ e) :
 XN1.orthoepyref10_Norm.f s (str d) e = some ((Dig.norm ⟨s, d, e⟩).neg, str (Dig.norm ⟨s, d, e⟩).d, (Dig.norm ⟨s, d, e⟩).e) := by
 unfold XN1.orthoepyref10_Norm.f
 rw [if_pos ⟨hl, he, he'⟩]
 rfl
theorem vQ (s : Bool) (d : List UInt8) (e : Int) (hl : d.length ≤ 1000000000000) (he : e ≤ 1000000000000) (he' : -1000000000000 ≤ e) (hd : d.all Dig.dig = true) :
 XN1.orthoepyref10_Int.f s (str d) e = some ((Dig.int ⟨s, d, e⟩).1, (Dig.int ⟨s, d, e⟩).2) := by
 unfold XN1.orthoepyref10_Int.f
 rw [if_pos ⟨⟨hl, he, he'⟩, hd⟩]
 rfl
theorem qG : ∀ (f : Nat) (d : List UInt8) (i : Nat), i ≤ 16 → Num.moreN f d i ≤ 16
 | 0, _, i, h => h
 | f + 1, d, i, h => by
  unfold Num.moreN
  split
  · split
    · exact qG f d (i + 1) (by omega)
    · exact h
  · exact h
theorem wO (d0 : ByteArray) (b0 : Int) (e0 : Bool) (s0 : Int) (x0 : ByteArray) (n0 : Bool) (D : List UInt8) (E : Int) (hD : D.all Dig.dig = true) (hl : D.length ≤ 1000000) (r : Option Bool) (k0 : Nat) :
 ∀ (f i : Nat), i + f = 16 → (∀ k, k0 ≤ k → XN1.orthoepyref11_may.j2 k (Num.moreN (f + 1) D i) d0 b0 e0 s0 x0 n0 (str D) E = r) → ∀ k, k0 + f + 1 ≤ k →
 XN1.orthoepyref11_may.l0 k i d0 b0 e0 s0 x0 n0 (str D) E = r
 | f, i, hi, hr, 0, hk => absurd hk (by omega)
 | 0, i, hi, hr, k + 1, hk => by
  simp only [XN1.orthoepyref11_may.l0]
  rw [if_neg (by omega)]
  have := hr k (by omega)
  unfold Num.moreN at this
  rw [if_neg (by omega)] at this
  exact this
 | f + 1, i, hi, hr, k + 1, hk => by
  simp only [XN1.orthoepyref11_may.l0]
  have e3 : wrap64 ((i : Int) + 1) = ((i + 1 : Nat) : Int) := by rw [cS _ (by omega) (by omega)]; omega
  rw [if_pos (by omega), e3, vQ false D _ (by omega) (by omega) (by omega) hD, Option.bind_some]
  dsimp only
  unfold Num.moreN at hr
  rw [if_pos (show i < 16 by omega)] at hr
  have ec : ((i : Int) + 1) = ((i + 1 : Nat) : Int) := by omega
  rw [ec] at hr
  by_cases h0 : (Dig.int ⟨false, D, ((i + 1 : Nat) : Int)⟩).2 = 0
  · rw [if_pos h0] at hr ⊢
    exact wO d0 b0 e0 s0 x0 n0 D E hD hl r k0 f (i + 1) (by omega) hr k (by omega)
  · rw [if_neg h0] at hr ⊢
    exact hr k (by omega)
theorem may_eq (p : Num.Parts) (hd : p.d.all Dig.dig = true) (hx : p.x.all Dig.dig = true) (ld : p.d.length ≤ 1000000) (lx : p.x.length ≤ 1000000) (lb : p.behind ≤ 1000000) :
 XN1.orthoepyref11_may.f (p.x.length + 100) (str p.d) p.behind p.e p.sign (str p.x) = some (Num.mayP p) := by
 obtain ⟨d, bh, e, sg, x⟩ := p
 simp only at hd hx ld lx lb ⊢
 unfold XN1.orthoepyref11_may.f Num.mayP
 have e1 : wrap64 (-(bh : Int)) = -(bh : Int) := cS _ (by omega) (by omega)
 rw [e1, rnorm_f false d _ (by omega) (by omega) (by omega), Option.bind_some]
 have hb := Dig.norm_e_bound ⟨false, d, -(bh : Int)⟩ (show d.length ≤ _ by omega) (show -(bh : Int) ≤ _ by omega) (show _ ≤ -(bh : Int) by omega)
 have hb2 := Num.norm_e_small ⟨false, d, -(bh : Int)⟩
 have hyd : (Dig.norm ⟨false, d, -(bh : Int)⟩).d.all Dig.dig = true := by rw [Dig.norm_d]; exact Dig.core_all d hd
 have hyl : (Dig.norm ⟨false, d, -(bh : Int)⟩).d.length ≤ 1000000 := by rw [Dig.norm_d]; exact Nat.le_trans (Dig.core_le d) ld
 dsimp only
 simp only at hb2
 generalize Dig.norm ⟨false, d, -(bh : Int)⟩ = y at *
 obtain ⟨ys, D, E⟩ := y
 simp only at hyd hyl hb2 ⊢
 by_cases h0 : D = []
 · rw [if_pos (by rw [h0]; rfl), if_pos h0]
 · rw [if_neg (by rw [aR]; have := List.length_pos_iff.2 h0; omega), if_neg h0, vQ false D 0 (by omega) (by omega) (by omega) hyd, Option.bind_some]
   dsimp only
   by_cases h1 : (Dig.int ⟨false, D, 0⟩).2 = 0
   · have q1 : ¬ ((Dig.int ⟨false, D, 0⟩).2 ≠ 0) := by simpa using h1
     rw [if_pos h1, if_neg q1]
     have hmore := qG 17 D 0 (by omega)
     have key : ∀ k, x.length + 60 ≤ k → XN1.orthoepyref11_may.j0 k false (str d) bh e sg (str x) ys (str D) E = some (if sg = 45 then Num.has x (E - Num.moreN 17 D 0) E else Num.has x (-E) (-E + Num.moreN 17 D 0)) := fun k hk => by
      obtain ⟨k, rfl⟩ : ∃ j, k = j + 1 := ⟨k - 1, by omega⟩
      simp only [XN1.orthoepyref11_may.j0]
      rw [if_neg (by simp)]
      refine wO (str d) bh e sg (str x) ys D E hyd hyl _ (x.length + 41) 16 0 (by omega) (fun k hk => ?_) k (by omega)
      obtain ⟨k, rfl⟩ : ∃ j, k = j + 1 := ⟨k - 1, by omega⟩
      simp only [XN1.orthoepyref11_may.j2]
      have w1 : wrap64 (-E) = -E := cS _ (by omega) (by omega)
      have w2 : wrap64 (-(-E)) = E := by rw [cS _ (by omega) (by omega)]; omega
      have w3 : wrap64 (E - (Num.moreN 17 D 0 : Int)) = E - Num.moreN 17 D 0 := cS _ (by omega) (by omega)
      have w4 : wrap64 (-E + (Num.moreN 17 D 0 : Int)) = -E + Num.moreN 17 D 0 := cS _ (by omega) (by omega)
      rw [w1, w2, w3, w4]
      by_cases hs : sg = 45
      · rw [if_pos (by omega), if_pos hs, sJ _ _ (by omega) (by omega) (by omega) x k hx lx (by omega)]; rfl
      · rw [if_neg (by omega), if_neg hs, sJ _ _ (by omega) (by omega) (by omega) x k hx lx (by omega)]; rfl
     cases e with
     | false =>
      have q2 : (false = false ∨ sg = 0 ∧ x = []) := Or.inl rfl
      rw [if_neg (by simp), if_pos q2]
      simp only [XN1.orthoepyref11_may.j0]
      rfl
     | true =>
      rw [if_pos (show true = true from rfl)]
      by_cases hs : sg = 0
      · rw [if_pos (by omega)]
        by_cases hx0 : x = []
        · have q2 : (true = false ∨ sg = 0 ∧ x = []) := Or.inr ⟨hs, hx0⟩
          rw [if_pos q2, hx0]
          simp only [XN1.orthoepyref11_may.j0]
          rfl
        · have q2 : ¬ (true = false ∨ sg = 0 ∧ x = []) := by simp [hx0]
          rw [if_neg q2]
          have e5 : (((str x).size : Int) == 0) = false := by rw [aR]; have := List.length_pos_iff.2 hx0; simp; exact hx0
          rw [e5]
          exact key _ (by omega)
      · have q2 : ¬ (true = false ∨ sg = 0 ∧ x = []) := by simp [hs]
        rw [if_neg (by omega), if_neg q2]
        exact key _ (by omega)
   · have q1 : (Dig.int ⟨false, D, 0⟩).2 ≠ 0 := h1
     rw [if_neg h1, if_pos q1]
end Go.Proofs.YthdncmagfgoboaaGreatDoor
end

section
namespace Go.Proofs.YthdncmagfgoboaaGreatDoor.XN2
open Go.RowKit Go.Proofs.YthdncmagfgoboaaGreatDoorW.PrintWords Go.Proofs.YthdncmagfgoboaaGreatDoorW.PrintLast Go.Proofs.YthdncmagfgoboaaGreatDoorW.PrintMore
attribute [local go_sem] yC yA yE yD xY xX yB xZ   -- for this text's walks alone
def errW : Option Int → Value
 | none => .nilIface
 | some c => .iface 0 (.int .i64 c)
theorem aT : errW none = .nilIface := rfl
theorem aS (c : Int) : errW (some c) = .iface 0 (.int .i64 c) := rfl
end Go.Proofs.YthdncmagfgoboaaGreatDoor.XN2
end
