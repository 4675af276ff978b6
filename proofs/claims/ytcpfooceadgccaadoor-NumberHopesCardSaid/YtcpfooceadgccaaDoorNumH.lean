/-
  Numbers byte by byte: what makes it a number (the reference's More), in plain Lean.
-/
import Derived.Test.YtcpfooceadgccaaDoorNumG
set_option linter.unusedVariables false
set_option linter.unusedSimpArgs false
namespace Go.Proofs.YtcpfooceadgccaaDoor.Num
open Go
open Go.Proofs.YtcpfooceadgccaaDoor.Dig (Bs run dig val core cutL cutR norm digs)

/-- the digits behind those of an exponent that make it e -/
def fit (P : Parts) (e : Int) : Option Bs :=
  let e' := if P.sign = 45 then -e else e
  if e' < 0 then none else
  if cutL P.x = [] ∧ P.x ≠ [] ∧ e' = 0 then some [] else
  if cutL P.x = [] then some (Dig.print e') else
  if (cutL P.x).length ≤ (Dig.print e').length ∧ (Dig.print e').take (cutL P.x).length = cutL P.x then some ((Dig.print e').drop (cutL P.x).length) else none

def goodB (u : Bs) : Bool := match Dig.read u with | none => false | some d => (Dig.int d).2 == 0
theorem goodB_iff (u : Bs) : goodB u = true ↔ Good u := by
  unfold goodB Good
  cases Dig.read u with
  | none => simp
  | some d => simp

def tryAt (s : Bs) (P : Parts) (low : Int) (k : Nat) : Option Bs :=
  match fit P (low + k) with
  | none => none
  | some t => if goodB (s ++ t) = true then some t else none
def loopN (s : Bs) (P : Parts) (low : Int) : Nat → Nat → Option Bs
  | 0, _ => none
  | f + 1, k => match tryAt s P low k with
    | some t => some t
    | none => loopN s P low f (k + 1)

def dot (s : Bs) : Bs := if s.getLast? = some 46 then [48] else []
def moreP (s : Bs) (P : Parts) : Bs :=
  let d := norm ⟨false, P.d, -P.behind⟩
  if P.e = false then (if (Dig.int d).2 = 0 then dot s else dot s ++ 101 :: Dig.print (-d.e)) else
  if P.x = [] ∧ P.sign = 0 then Dig.print (-d.e) else
  match loopN s P (-d.e) 17 0 with
  | some t => t
  | none => if P.x = [] then [48] else []
def more (s : Bs) : Bs := if s = [] ∨ s = [45] then [48] else match cutO s with | none => [] | some P => moreP s P

theorem loopN_some (s : Bs) (P : Parts) (low : Int) : ∀ f k t, loopN s P low f k = some t → Good (s ++ t)
  | 0, k, t, h => by unfold loopN at h; cases h
  | f + 1, k, t, h => by
    unfold loopN at h
    split at h
    · rename_i t' ht
      injection h with h
      subst h
      unfold tryAt at ht
      split at ht
      · cases ht
      · split at ht
        · rename_i hg
          injection ht with ht
          subst ht
          exact (goodB_iff _).1 hg
        · cases ht
    · exact loopN_some s P low f _ t h
theorem loopN_none (s : Bs) (P : Parts) (low : Int) : ∀ f k, loopN s P low f k = none → ∀ j, j < f → tryAt s P low (k + j) = none
  | 0, k, h, j, hj => by omega
  | f + 1, k, h, j, hj => by
    unfold loopN at h
    split at h
    · cases h
    · rename_i ht
      cases j with
      | zero => exact ht
      | succ j =>
        have := loopN_none s P low f (k + 1) h j (by omega)
        rw [show k + 1 + j = k + (j + 1) by omega] at this
        exact this

-- digits

theorem digs_step (n d : Nat) (hn : 1 ≤ n) (hd : d < 10) : digs (10 * n + d) = digs n ++ [Dig.fig d] := by
  conv => lhs; unfold Dig.digs
  rw [if_neg (by omega), show (10 * n + d) / 10 = n by omega, show (10 * n + d) % 10 = d by omega]
theorem digs_one (d : Nat) (hd : d < 10) : digs d = [Dig.fig d] := by unfold Dig.digs; rw [if_pos hd]
theorem fig_of (c : UInt8) (h : dig c = true) : Dig.fig (c.toNat - 48) = c := by
  obtain ⟨h1, h2⟩ := Dig.dig_le c h
  unfold Dig.fig
  rw [show 48 + (c.toNat - 48) = c.toNat by omega]
  exact UInt8.toNat_inj.1 (by simp)
theorem digs_val (l : Bs) : l ≠ [] → l.all dig = true → l.head? ≠ some 48 → digs (val l) = l := by
  induction l using Dig.snocInd with
  | h0 => intro h; exact absurd rfl h
  | h1 l c ih =>
    intro _ hd hh
    rw [Dig.all_dig_snoc, Bool.and_eq_true] at hd
    obtain ⟨c1, c2⟩ := Dig.dig_le c hd.2
    rw [Dig.val_snoc]
    by_cases h0 : l = []
    · subst h0
      have : val [] = 0 := rfl
      rw [this, Nat.mul_zero, Nat.zero_add, digs_one _ (by omega), fig_of c hd.2, List.nil_append]
    · have hh' : l.head? ≠ some 48 := by rw [head_app l [c] h0] at hh; exact hh
      have hv := Dig.val_ge l h0 hd.1 hh'
      have hp : 1 ≤ 10 ^ (l.length - 1) := Nat.pow_pos (by omega)
      rw [digs_step _ _ (by omega) (by omega), ih h0 hd.1 hh', fig_of c hd.2]
theorem digs_pre (v : Nat) (hv : 1 ≤ v) : ∀ (i V : Nat), v * 10 ^ i ≤ V → V < (v + 1) * 10 ^ i → ∃ u, digs V = digs v ++ u
  | 0, V, h1, h2 => ⟨[], by rw [show V = v by simp at h1 h2; omega]; simp⟩
  | i + 1, V, h1, h2 => by
    rw [Nat.pow_succ, ← Nat.mul_assoc] at h1 h2
    have hp : v ≤ v * 10 ^ i := Nat.le_mul_of_pos_right _ (Nat.pow_pos (by omega))
    obtain ⟨u, hu⟩ := digs_pre v hv i (V / 10) (by omega) (by omega)
    refine ⟨u ++ [Dig.fig (V % 10)], ?_⟩
    have := digs_step (V / 10) (V % 10) (by omega) (by omega)
    rw [show 10 * (V / 10) + V % 10 = V by omega] at this
    rw [this, hu, List.append_assoc]

theorem meets_out2 (v : Nat) (hv : 1 ≤ v) : ∀ (f i low high : Nat) (a b : Int), 0 ≤ a → a ≤ b → low = v * 10 ^ i → high + 1 = (v + 1) * 10 ^ i → meets f low high a b = true → ∃ V : Nat, a ≤ V ∧ (V : Int) ≤ b ∧ ∃ u, digs V = digs v ++ u
  | 0, _, _, _, _, _, _, _, _, _, h => by unfold meets at h; cases h
  | f + 1, i, low, high, a, b, ha, hab, hl, hh, h => by
    unfold meets at h
    split at h
    · rename_i h1
      split at h
      · rename_i h2
        rcases Int.le_total a low with h3 | h3
        · have hp : (v + 1) * 10 ^ i = v * 10 ^ i + 10 ^ i := by rw [Nat.add_mul, Nat.one_mul]
          have hp1 : 1 ≤ 10 ^ i := Nat.pow_pos (by omega)
          exact ⟨low, h3, h1, digs_pre v hv i low (by omega) (by omega)⟩
        · exact ⟨a.toNat, by omega, by omega, digs_pre v hv i a.toNat (by omega) (by omega)⟩
      · refine meets_out2 v hv f (i + 1) _ _ a b ha hab ?_ ?_ h
        · rw [hl, Nat.pow_succ, Nat.mul_comm 10, Nat.mul_assoc]
        · rw [show 10 * high + 9 + 1 = (high + 1) * 10 by omega, hh, Nat.pow_succ, Nat.mul_assoc]
    · cases h

theorem mostN_in : ∀ (f m j : Nat), m ≤ maxW → j ≤ mostN f m → m * 10 ^ j ≤ maxW
  | 0, m, j, hm, h => by unfold mostN at h; rw [show j = 0 by omega]; simpa using hm
  | f + 1, m, j, hm, h => by
    unfold mostN at h
    cases j with
    | zero => simpa using hm
    | succ j =>
      split at h
      · rename_i h1
        have := mostN_in f (10 * m) j (by unfold maxW; omega) (by omega)
        rw [Nat.pow_succ, show m * (10 ^ j * 10) = 10 * m * 10 ^ j by rw [Nat.mul_comm (10 ^ j) 10, ← Nat.mul_assoc, Nat.mul_comm m 10]]
        exact this
      · omega

theorem cutL_nz (x : Bs) (hx : x.all dig = true) (h : cutL x ≠ []) : 1 ≤ val x := by
  rcases Nat.eq_zero_or_pos (val x) with e | e
  · exact absurd ((val_zero_cut x hx).1 e) h
  · exact e

theorem has_out (x : Bs) (a b : Int) (hx : x.all dig = true) (hab : a ≤ b) (h : has x a b = true) : ∃ V : Nat, a ≤ V ∧ (V : Int) ≤ b ∧ (cutL x = [] ∨ ∃ u, digs V = cutL x ++ u) := by
  unfold has at h
  dsimp only at h
  by_cases h0 : cutL x = []
  · rw [if_pos h0] at h
    have := of_decide_eq_true h
    exact ⟨(max a 0).toNat, by omega, by omega, .inl h0⟩
  · rw [if_neg h0] at h
    split at h
    · cases h
    · have hb : 0 ≤ b := by
        rcases Int.lt_or_le b 0 with e | e
        · rw [meets_out _ _ e] at h; cases h
        · exact e
      have hv := cutL_nz x hx h0
      have hd : (cutL x).all dig = true := by
        rw [List.all_eq_true] at hx ⊢
        exact fun c hc => hx c (Dig.cutL_sub x c hc)
      rw [Dig.val_cutL] at h
      obtain ⟨V, h1, h2, u, h3⟩ := meets_out2 (val x) hv 12 0 _ _ (max a 0) b (by omega) (by omega) (by simp) (by simp) h
      refine ⟨V, by omega, h2, .inr ⟨u, ?_⟩⟩
      rw [h3, ← Dig.val_cutL, digs_val (cutL x) h0 hd (Dig.cutL_head x)]

theorem int_sign (s : Bool) (D : Bs) (e : Int) : (Dig.int ⟨s, D, e⟩).2 = (Dig.int ⟨false, D, e⟩).2 := by
  unfold Dig.int Dig.norm
  dsimp only
  by_cases h : core D = []
  · rw [if_pos h, if_pos h]
  · rw [if_neg h, if_neg h]
    unfold Dig.intN
    dsimp only
    repeat' split
    all_goals rfl
theorem int_ok2 {C : Bs} (h : Nz C) (s : Bool) (k : Nat) (hk : val C * 10 ^ k ≤ maxW) : (Dig.int ⟨s, C, k⟩).2 = 0 := by rw [int_sign]; exact (int_ok h k).2 hk
theorem int_zero : (Dig.int Dig.zero).2 = 0 := rfl

theorem good_full (t : T) (v : t.V) (hf : t.full) (hi : (Dig.int (norm ⟨t.neg, t.d ++ t.f, -(t.f.length : Int) + t.exv⟩)).2 = 0) : Good t.text := ⟨_, read_text t v hf, hi⟩
theorem good_zeros (t : T) (v : t.V) (hf : t.full) (k : Nat) (h : t.d ++ t.f = List.replicate k 48) : Good t.text := good_full t v hf (by rw [h, norm_zeros]; rfl)
theorem good_mid (t : T) (v : t.V) (hf : t.full) {a z : Nat} {C : Bs} (h : t.d ++ t.f = List.replicate a 48 ++ (C ++ List.replicate z 48)) (hC : Nz C) (k : Nat) (hk : val C * 10 ^ k ≤ maxW) (he : -(t.f.length : Int) + t.exv + z = k) : Good t.text :=
  good_full t v hf (by rw [h, norm_mid hC, he, Dig.int, hC.norm, ← hC.norm, ← Dig.int]; exact int_ok2 hC _ k hk)

/-- an exponent put to a mantissa -/
def T.put (t : T) (eb : UInt8) (sg x : Bs) : T := { t with ex := true, eb := eb, sg := sg, x := x }
theorem put_V (t : T) (v : t.V) (hd : t.d ≠ []) (hf : t.pt = true → t.f ≠ []) (eb : UInt8) (heb : eb = 101 ∨ eb = 69) (sg x : Bs) (hs : sg = [] ∨ sg = [45] ∨ sg = [43]) (hx : x.all dig = true) (x0 : x ≠ []) : (t.put eb sg x).V ∧ (t.put eb sg x).full :=
  have v' : (t.put eb sg x).V := ⟨v.d, v.f, hx, v.ld, v.np, fun e => by simp [T.put] at e, v.pd, fun _ => ⟨hd, hf, heb⟩, hs⟩
  ⟨v', (at_full _ v').2 ⟨hd, hf, fun _ => x0⟩⟩
theorem put_text (t : T) (eb : UInt8) (sg x : Bs) : (t.put eb sg x).text = (if t.neg = true then [45] else []) ++ (t.man ++ (eb :: (sg ++ x))) := rfl
theorem put_exv (t : T) (eb : UInt8) (sg x : Bs) (hx : x.all dig = true) : (t.put eb sg x).exv = if sg = [45] then -((min (val x) far : Nat) : Int) else ((min (val x) far : Nat) : Int) := by
  show (if (true : Bool) = true then (if sg = [45] then -((x.foldl Dig.expo 0 : Nat) : Int) else ((x.foldl Dig.expo 0 : Nat) : Int)) else 0) = _
  rw [if_pos rfl, expo_val x hx]

/-- a printed exponent: sign and digits -/
theorem print_parts (e : Int) (he : e.natAbs ≤ 1000000) : ∃ sg x, Dig.print e = sg ++ x ∧ (sg = [] ∨ sg = [45] ∨ sg = [43]) ∧ x.all dig = true ∧ x ≠ [] ∧ (if sg = [45] then -((min (val x) far : Nat) : Int) else ((min (val x) far : Nat) : Int)) = e := by
  unfold Dig.print
  have hv := Dig.val_digs e.natAbs
  by_cases h : e < 0
  · rw [if_pos h]
    refine ⟨[45], digs e.natAbs, rfl, .inr (.inl rfl), Dig.digs_all _, Dig.digs_ne _, ?_⟩
    rw [if_pos rfl, hv]
    unfold far
    omega
  · rw [if_neg h]
    refine ⟨[], digs e.natAbs, rfl, .inl rfl, Dig.digs_all _, Dig.digs_ne _, ?_⟩
    rw [if_neg (by simp), hv]
    unfold far
    omega

theorem last_app (l m : Bs) (h : m ≠ []) : (l ++ m).getLast? = m.getLast? := by
  rw [List.getLast?_append]
  cases hm : m.getLast? with
  | none => exact absurd (List.getLast?_eq_none_iff.1 hm) h
  | some x => rfl
theorem last_dig (l m : Bs) (hm : m.all dig = true) (h : m ≠ []) : ¬ (l ++ m).getLast? = some 46 := by
  rw [last_app l m h]
  intro e
  have := List.all_eq_true.1 hm 46 (List.mem_of_getLast? e)
  simp [Dig.dig] at this

/-- a point at its end gets a nought -/
theorem dot_T (t : T) (v : t.V) (hd : t.d ≠ []) (hx : t.ex = false) : ∃ (t1 : T) (j : Nat), t1.V ∧ t1.text = t.text ++ dot t.text ∧ t1.ex = false ∧ t1.d ≠ [] ∧ (t1.pt = true → t1.f ≠ []) ∧ t1.d ++ t1.f = (t.d ++ t.f) ++ List.replicate j 48 ∧ t1.f.length = t.f.length + j ∧ t1.neg = t.neg := by
  obtain ⟨v1, v2, v3, v4, v5, v6, v7, v8, v9⟩ := v
  obtain ⟨neg, d, pt, f, ex, eb, sg, x⟩ := t
  simp only at v1 v2 v3 v4 v5 v6 v7 v8 v9 hd hx ⊢
  subst hx
  cases pt with
  | false =>
    have := v5 rfl
    subst this
    have hn : dot (T.text ⟨neg, d, false, [], false, eb, sg, x⟩) = [] := by
      unfold dot
      rw [if_neg]
      simp only [T.text, T.man, T.tail]
      simp only [if_neg (show ¬ (false = true) by simp), List.append_nil]
      exact last_dig _ d v1 hd
    refine ⟨⟨neg, d, false, [], false, eb, sg, x⟩, 0, ⟨v1, v2, v3, v4, v5, v6, v7, v8, v9⟩, by rw [hn, List.append_nil], rfl, hd, fun e => by simp at e, by simp, rfl, rfl⟩
  | true =>
    by_cases hf : f = []
    · subst hf
      have hn : dot (T.text ⟨neg, d, true, [], false, eb, sg, x⟩) = [48] := by
        unfold dot
        rw [if_pos]
        simp only [T.text, T.man, T.tail]
        simp only [if_neg (show ¬ (false = true) by simp), List.append_nil, if_pos]
        rw [last_app _ _ (by simp), last_app d [46] (by simp)]
        rfl
      refine ⟨⟨neg, d, true, [48], false, eb, sg, x⟩, 1, ⟨v1, by rfl, v3, v4, fun e => by simp at e, v6, v7, fun e => by simp at e, v9⟩, ?_, rfl, hd, fun _ => by simp, by simp, rfl, rfl⟩
      rw [hn]
      simp [T.text, T.man, T.tail]
    · have hn : dot (T.text ⟨neg, d, true, f, false, eb, sg, x⟩) = [] := by
        unfold dot
        rw [if_neg]
        simp only [T.text, T.man, T.tail]
        simp only [if_neg (show ¬ (false = true) by simp), List.append_nil, if_pos]
        rw [show ((if neg = true then [45] else []) ++ (d ++ 46 :: f) : Bs) = ((if neg = true then [45] else []) ++ (d ++ [46])) ++ f by simp]
        exact last_dig _ f v2 hf
      refine ⟨⟨neg, d, true, f, false, eb, sg, x⟩, 0, ⟨v1, v2, v3, v4, v5, v6, v7, v8, v9⟩, by rw [hn, List.append_nil], rfl, hd, fun _ => hf, by simp, rfl, rfl⟩

theorem val_noughts (x u : Bs) (D : Bs) (h : cutL x ++ u = D) : val (x ++ u) = val D := by
  obtain ⟨k, hk⟩ := Dig.cutL_split x
  rw [← h]
  conv => lhs; rw [hk, List.append_assoc, Dig.val_front]

theorem print_nat (V : Nat) : Dig.print (V : Int) = digs V := by
  unfold Dig.print
  rw [if_neg (by omega)]
  simp

theorem fit_some (P : Parts) (hx : P.x.all dig = true) (e : Int) (V : Nat) (he : (if P.sign = 45 then -e else e) = (V : Int)) (h : cutL P.x = [] ∨ ∃ u, digs V = cutL P.x ++ u) :
    ∃ u, fit P e = some u ∧ u.all dig = true ∧ P.x ++ u ≠ [] ∧ val (P.x ++ u) = V := by
  unfold fit
  dsimp only
  rw [he, if_neg (by omega), print_nat]
  by_cases h0 : cutL P.x = []
  · by_cases h1 : P.x ≠ [] ∧ (V : Int) = 0
    · rw [if_pos ⟨h0, h1.1, h1.2⟩]
      refine ⟨[], rfl, rfl, by simpa using h1.1, ?_⟩
      rw [List.append_nil, (val_zero_cut _ hx).2 h0]
      omega
    · rw [if_neg (fun q => h1 q.2), if_pos h0]
      refine ⟨_, rfl, Dig.digs_all _, fun q => Dig.digs_ne V (List.append_eq_nil_iff.1 q).2, ?_⟩
      rw [val_noughts P.x (digs V) (digs V) (by rw [h0]; rfl), Dig.val_digs]
  · obtain ⟨u, hu⟩ : ∃ u, digs V = cutL P.x ++ u := by
      rcases h with h | h
      · exact absurd h h0
      · exact h
    rw [if_neg (fun q => h0 q.1), if_neg h0, hu, if_pos ⟨by simp, by simp⟩]
    have hd := Dig.digs_all V
    rw [hu, List.all_append, Bool.and_eq_true] at hd
    refine ⟨u, by simp, hd.2, fun q => h0 ?_, ?_⟩
    · rw [(List.append_eq_nil_iff.1 q).1]; rfl
    · rw [val_noughts P.x u (digs V) hu.symm, Dig.val_digs]

theorem text_ex (t : T) (h : t.ex = true) (u : Bs) : t.text ++ u = (t.put t.eb t.sg (t.x ++ u)).text := by
  rw [put_text]
  unfold T.text T.tail
  rw [if_pos h]
  simp
theorem text_nex (t : T) (h : t.ex = false) (eb : UInt8) (sg x : Bs) : t.text ++ eb :: (sg ++ x) = (t.put eb sg x).text := by
  rw [put_text]
  unfold T.text T.tail
  simp [h]

theorem more_good (t : T) (v : t.V) (hl : t.text.length ≤ 80000) (hm : t.d ≠ [] → mayP t.parts = true) : Good (t.text ++ more t.text) := by
  by_cases hd : t.d = []
  · have hp : t.pt = false := by
      cases hp : t.pt with
      | false => rfl
      | true => exact absurd hd (v.pd hp)
    have hx : t.ex = false := by
      cases hx : t.ex with
      | false => rfl
      | true => exact absurd hd (v.xd hx).1
    have ht : t.text = if t.neg = true then [45] else [] := by
      unfold T.text T.man T.tail
      rw [hd, hp, hx]
      simp
    rw [ht]
    cases t.neg with
    | true => exact ⟨Dig.zero, by decide, by decide⟩
    | false => exact ⟨Dig.zero, by decide, by decide⟩
  · have hmay := hm hd
    have hlp := len_parts t v
    have hne : ¬ (t.text = [] ∨ t.text = [45]) := by
      unfold T.text T.man
      cases hdd : t.d with
      | nil => exact absurd hdd hd
      | cons c r =>
        have hc : dig c = true := by have := v.d; rw [hdd, List.all_cons, Bool.and_eq_true] at this; exact this.1
        cases t.neg with
        | true => simp
        | false =>
          simp
          intro e
          subst e
          simp [Dig.dig] at hc
    unfold more
    rw [if_neg hne, cut_text t v]
    dsimp only
    show Good (t.text ++ moreP t.text ⟨t.d ++ t.f, t.f.length, t.ex, t.sgn, t.x⟩)
    unfold moreP
    dsimp only
    have hexs : ∀ u, u.all dig = true → t.ex = true → t.x ++ u ≠ [] → (t.put t.eb t.sg (t.x ++ u)).V ∧ (t.put t.eb t.sg (t.x ++ u)).full := fun u hu hx h0 => by
      obtain ⟨w1, w2, w3⟩ := v.xd hx
      exact put_V t v hd w2 t.eb w3 t.sg _ v.sg (all_app v.x hu) h0
    rcases split_mid (t.d ++ t.f) (all_app v.d v.f) with a1 | ⟨a, C, z, a1, a2⟩
    · -- nought
      have e : norm ⟨false, t.d ++ t.f, -(t.f.length : Int)⟩ = Dig.zero := by rw [a1]; exact norm_zeros _ _ _
      rw [e, int_zero, if_pos rfl]
      cases hx : t.ex with
      | false =>
        rw [if_pos rfl]
        obtain ⟨t1, j, c1, c2, c3, c4, c5, c6, c7, c8⟩ := dot_T t v hd hx
        rw [← c2]
        refine good_zeros t1 c1 ((at_full t1 c1).2 ⟨c4, c5, fun q => by rw [c3] at q; cases q⟩) ((t.d ++ t.f).length + j) ?_
        rw [c6]
        conv => lhs; rw [a1]
        rw [List.replicate_append_replicate]
      | true =>
        obtain ⟨w1, w2, w3⟩ := v.xd hx
        rw [if_neg (by simp)]
        by_cases h0 : t.x = [] ∧ t.sgn = 0
        · rw [if_pos h0]
          show Good (t.text ++ Dig.print 0)
          have hsg : t.sg = [] := by
            have := h0.2
            unfold T.sgn at this
            rcases v.sg with h | h | h
            · exact h
            · rw [if_pos h] at this; omega
            · rw [if_neg (by rw [h]; simp), if_pos h] at this; omega
          obtain ⟨sg, x, p1, p2, p3, p4, p5⟩ := print_parts 0 (by simp)
          have p6 := put_V t v hd w2 t.eb w3 sg x p2 p3 p4
          have p7 : t.text ++ Dig.print 0 = (t.put t.eb sg x).text := by
            rw [p1, put_text]
            unfold T.text T.tail
            rw [if_pos hx, hsg, h0.1]
            simp
          rw [p7]
          exact good_zeros _ p6.1 p6.2 _ a1
        · rw [if_neg h0]
          show Good (t.text ++ (match loopN t.text ⟨t.d ++ t.f, t.f.length, true, t.sgn, t.x⟩ (-Dig.zero.e) 17 0 with
            | some t => t
            | none => if t.x = [] then [48] else []))
          cases hlp : loopN t.text ⟨t.d ++ t.f, t.f.length, true, t.sgn, t.x⟩ (-Dig.zero.e) 17 0 with
          | some u => exact loopN_some _ _ _ _ _ _ hlp
          | none =>
            by_cases h1 : t.x = []
            · dsimp only
              rw [if_pos h1, text_ex t hx [48]]
              have := hexs [48] rfl hx (by simp)
              exact good_zeros _ this.1 this.2 _ a1
            · dsimp only
              rw [if_neg h1, List.append_nil]
              exact good_zeros t v ((at_full t v).2 ⟨hd, w2, fun _ => h1⟩) _ a1
    · have e : norm ⟨false, t.d ++ t.f, -(t.f.length : Int)⟩ = ⟨false, C, -(t.f.length : Int) + z⟩ := by rw [a1]; exact norm_mid a2 _ _ _ _
      have hp := a2.pos1
      have hzl : z ≤ 80000 := by
        have h1 := congrArg List.length a1
        simp at h1
        omega
      replace hmay : mayP ⟨t.d ++ t.f, t.f.length, t.ex, t.sgn, t.x⟩ = true := hmay
      unfold mayP at hmay
      dsimp only at hmay
      rw [e] at hmay ⊢
      dsimp only at hmay ⊢
      rw [if_neg a2.ne] at hmay
      have i0 : (Dig.int ⟨false, C, 0⟩).2 = 0 := by
        rcases Decidable.em ((Dig.int ⟨false, C, 0⟩).2 = 0) with h | h
        · exact h
        · rw [if_pos h] at hmay; cases hmay
      rw [if_neg (fun q => q i0)] at hmay
      have hC : val C ≤ maxW := by have := (int_ok a2 0).1 i0; simpa using this
      obtain ⟨sg, x, p1, p2, p3, p4, p5⟩ := print_parts (-(-(t.f.length : Int) + z)) (by omega)
      cases hx : t.ex with
      | false =>
        rw [if_pos rfl]
        obtain ⟨t1, j, c1, c2, c3, c4, c5, c6, c7, c8⟩ := dot_T t v hd hx
        by_cases hi : (Dig.int ⟨false, C, -(t.f.length : Int) + z⟩).2 = 0
        · rw [if_pos hi, ← c2]
          refine good_full t1 c1 ((at_full t1 c1).2 ⟨c4, c5, fun q => by rw [c3] at q; cases q⟩) ?_
          have hv0 : t1.exv = 0 := by unfold T.exv; rw [c3]; rfl
          rw [c6, Dig.norm_back, c7, hv0, show -((t.f.length + j : Nat) : Int) + 0 + j = -(t.f.length : Int) by omega, a1, norm_mid a2, int_sign]
          exact hi
        · rw [if_neg hi, p1, ← List.append_assoc, ← c2, text_nex t1 c3]
          have p6 := put_V t1 c1 c4 c5 101 (.inl rfl) sg x p2 p3 p4
          refine good_mid _ p6.1 p6.2 (a := a) (z := z + j) ?_ a2 0 (by simpa using hC) ?_
          · show t1.d ++ t1.f = _
            rw [c6, a1, ← List.replicate_append_replicate]
            simp
          · rw [put_exv _ _ _ _ p3, p5]
            show -(t1.f.length : Int) + _ + _ = _
            rw [c7]
            omega
      | true =>
        obtain ⟨w1, w2, w3⟩ := v.xd hx
        rw [if_neg (by simp)]
        by_cases h0 : t.x = [] ∧ t.sgn = 0
        · rw [if_pos h0]
          have hsg : t.sg = [] := by
            have := h0.2
            unfold T.sgn at this
            rcases v.sg with h | h | h
            · exact h
            · rw [if_pos h] at this; omega
            · rw [if_neg (by rw [h]; simp), if_pos h] at this; omega
          have p6 := put_V t v hd w2 t.eb w3 sg x p2 p3 p4
          have p7 : t.text ++ Dig.print (-(-(t.f.length : Int) + z)) = (t.put t.eb sg x).text := by
            rw [p1, put_text]
            unfold T.text T.tail
            rw [if_pos hx, hsg, h0.1]
            simp
          rw [p7]
          refine good_mid _ p6.1 p6.2 (a := a) (z := z) a1 a2 0 (by simpa using hC) ?_
          rw [put_exv _ _ _ _ p3, p5]
          show -(t.f.length : Int) + _ + _ = _
          omega
        · rw [if_neg h0]
          rw [hx] at hmay
          rw [if_neg (by rintro (q | q); cases q; exact h0 ⟨q.2, q.1⟩), more_eq a2 hC] at hmay
          show Good (t.text ++ (match loopN t.text ⟨t.d ++ t.f, t.f.length, true, t.sgn, t.x⟩ (-(-(t.f.length : Int) + z)) 17 0 with
            | some t => t
            | none => if t.x = [] then [48] else []))
          cases hlp : loopN t.text ⟨t.d ++ t.f, t.f.length, true, t.sgn, t.x⟩ (-(-(t.f.length : Int) + z)) 17 0 with
          | some u => exact loopN_some _ _ _ _ _ _ hlp
          | none =>
            exfalso
            have hM := most_le (val C)
            have hall := loopN_none _ _ _ _ _ hlp
            have use : ∀ (k V : Nat), k ≤ most (val C) → (if t.sgn = 45 then -(-(-(t.f.length : Int) + z) + k) else -(-(t.f.length : Int) + z) + k) = (V : Int) → (cutL t.x = [] ∨ ∃ u, digs V = cutL t.x ++ u) → V ≤ 1000000 → False := fun k V hk he hu hVb => by
              obtain ⟨u, f1, f2, f3, f4⟩ := fit_some ⟨t.d ++ t.f, t.f.length, true, t.sgn, t.x⟩ v.x (-(-(t.f.length : Int) + z) + k) V he hu
              have f5 := hexs u f2 hx f3
              have hg : Good (t.text ++ u) := by
                rw [text_ex t hx u]
                refine good_mid _ f5.1 f5.2 (a := a) (z := z) a1 a2 k (mostN_in 16 _ _ hC hk) ?_
                rw [put_exv _ _ _ _ (all_app v.x f2)]
                simp only at f4
                rw [f4]
                have hmin : min V far = V := by unfold far; omega
                rw [hmin]
                show -(t.f.length : Int) + _ + _ = _
                by_cases hs : t.sg = [45]
                · have : t.sgn = 45 := by unfold T.sgn; rw [if_pos hs]
                  rw [if_pos this] at he
                  rw [if_pos hs]
                  omega
                · have : ¬ t.sgn = 45 := by unfold T.sgn; rw [if_neg hs]; split <;> omega
                  rw [if_neg this] at he
                  rw [if_neg hs]
                  omega
              have := hall k (by omega)
              rw [Nat.zero_add] at this
              unfold tryAt at this
              rw [f1] at this
              dsimp only at this
              rw [if_pos ((goodB_iff _).2 hg)] at this
              cases this
            by_cases hs : t.sgn = 45
            · rw [if_pos hs] at hmay
              obtain ⟨V, h1, h2, h3⟩ := has_out t.x _ _ v.x (by omega) hmay
              exact use ((-(t.f.length : Int) + z - V).toNat) V (by omega) (by rw [if_pos hs]; omega) h3 (by omega)
            · rw [if_neg hs] at hmay
              obtain ⟨V, h1, h2, h3⟩ := has_out t.x _ _ v.x (by omega) hmay
              exact use ((V - -(-(t.f.length : Int) + z)).toNat) V (by omega) (by rw [if_neg hs]; omega) h3 (by omega)
end Go.Proofs.YtcpfooceadgccaaDoor.Num
