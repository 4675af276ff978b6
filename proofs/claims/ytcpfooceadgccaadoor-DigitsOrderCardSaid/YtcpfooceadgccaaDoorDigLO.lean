/- The order of numbers as digits, in plain Lean: each number has a key, and the order is that of the keys. -/
import Derived.Test.YtcpfooceadgccaaDoorDigLW
set_option linter.unusedVariables false
set_option linter.unusedSimpArgs false
namespace Go.Proofs.YtcpfooceadgccaaDoor.Dig
open Go

theorem fold_val (l : Bs) : ∀ a : Nat, l.foldl (fun n b => 10 * n + (b.toNat - 48)) a = a * 10 ^ l.length + val l := by
  induction l with
  | nil => intro a; simp [val]
  | cons b l ih =>
    intro a
    unfold val
    have e : 10 * 0 + (b.toNat - 48) = b.toNat - 48 := by omega
    rw [List.foldl_cons, List.foldl_cons, ih, ih, List.length_cons, Nat.pow_succ, e, Nat.add_mul]
    have : 10 * a * 10 ^ l.length = a * (10 ^ l.length * 10) := by rw [Nat.mul_comm 10 a, Nat.mul_assoc, Nat.mul_comm 10]
    omega
theorem val_cons (b : UInt8) (l : Bs) : val (b :: l) = (b.toNat - 48) * 10 ^ l.length + val l := by
  unfold val
  rw [List.foldl_cons, fold_val]
  simp [val]

def NT (l : Bs) : Prop := l.getLast? ≠ some 48
theorem NT_tail (b : UInt8) (l : Bs) (h : NT (b :: l)) : NT l := by
  cases l with
  | nil => simp [NT]
  | cons c t => unfold NT at *; rw [List.getLast?_cons_cons] at h; exact h
theorem val_pos (l : Bs) (h0 : l ≠ []) (hd : l.all dig = true) (hn : NT l) : 0 < val l := by
  obtain ⟨t, c, rfl⟩ : ∃ t c, l = t ++ [c] := ⟨l.dropLast, l.getLast h0, (List.dropLast_concat_getLast h0).symm⟩
  rw [val_snoc]
  rw [all_dig_snoc, Bool.and_eq_true] at hd
  have := dig_le c hd.2
  have hc : c ≠ 48 := by unfold NT at hn; simpa using hn
  have : c.toNat ≠ 48 := fun e => hc (UInt8.toNat_inj.1 (by rw [e]; rfl))
  omega

/-- compared as texts, with the point ahead of them -/
theorem cmp_frac : ∀ (x y : Bs), x.all dig = true → y.all dig = true → NT x → NT y →
    (Lib.compareBytes x y = -1 ∧ val x * 10 ^ y.length < val y * 10 ^ x.length) ∨ (Lib.compareBytes x y = 0 ∧ x = y) ∨ (Lib.compareBytes x y = 1 ∧ val y * 10 ^ x.length < val x * 10 ^ y.length)
  | [], [], _, _, _, _ => Or.inr (Or.inl ⟨rfl, rfl⟩)
  | [], b :: y, _, hy, _, ny => Or.inl ⟨rfl, by
      have := val_pos (b :: y) (by simp) hy ny
      simpa [val] using this⟩
  | a :: x, [], hx, _, nx, _ => Or.inr (Or.inr ⟨rfl, by
      have := val_pos (a :: x) (by simp) hx nx
      simpa [val] using this⟩)
  | a :: x, b :: y, hx, hy, nx, ny => by
    rw [List.all_cons, Bool.and_eq_true] at hx hy
    have ha := dig_le a hx.1
    have hb := dig_le b hy.1
    have hvx := val_lt x hx.2
    have hvy := val_lt y hy.2
    rw [val_cons, val_cons, List.length_cons, List.length_cons, Nat.pow_succ, Nat.pow_succ]
    obtain ⟨p, hp⟩ : ∃ p, p = 10 ^ x.length := ⟨_, rfl⟩
    obtain ⟨q, hq⟩ : ∃ q, q = 10 ^ y.length := ⟨_, rfl⟩
    have hp0 : 0 < p := by rw [hp]; exact Nat.pow_pos (by omega)
    have hq0 : 0 < q := by rw [hq]; exact Nat.pow_pos (by omega)
    rw [← hp] at hvx
    rw [← hq] at hvy
    rw [← hp, ← hq]
    have key : ∀ (u v : Nat) (s t p q : Nat), s < p → u + 1 ≤ v → 0 < q → (u * p + s) * (q * 10) < (v * q + t) * (p * 10) := by
      intro u v s t p q hs huv hq0
      have h1 : u * p + s < v * p := by
        have : (u + 1) * p ≤ v * p := Nat.mul_le_mul_right _ huv
        rw [Nat.add_mul] at this
        omega
      calc (u * p + s) * (q * 10) < (v * p) * (q * 10) := Nat.mul_lt_mul_of_pos_right h1 (by omega)
        _ = (v * q) * (p * 10) := by rw [Nat.mul_assoc, Nat.mul_assoc, Nat.mul_left_comm p q 10]
        _ ≤ (v * q + t) * (p * 10) := Nat.mul_le_mul_right _ (by omega)
    unfold Lib.compareBytes
    by_cases h1 : a < b
    · rw [if_pos h1]
      left
      refine ⟨rfl, key _ _ _ _ _ _ hvx ?_ hq0⟩
      rw [UInt8.lt_iff_toNat_lt] at h1
      omega
    · rw [if_neg h1]
      by_cases h2 : b < a
      · rw [if_pos h2]
        right; right
        refine ⟨rfl, key _ _ _ _ _ _ hvy ?_ hp0⟩
        rw [UInt8.lt_iff_toNat_lt] at h2
        omega
      · rw [if_neg h2]
        have e : a = b := by
          rw [UInt8.lt_iff_toNat_lt] at h1 h2
          exact UInt8.toNat_inj.1 (by omega)
        subst e
        have lift : ∀ s t : Nat, s * q < t * p → ((a.toNat - 48) * p + s) * (q * 10) < ((a.toNat - 48) * q + t) * (p * 10) := by
          intro s t hst
          rw [Nat.add_mul, Nat.add_mul]
          have e1 : (a.toNat - 48) * p * (q * 10) = (a.toNat - 48) * q * (p * 10) := by rw [Nat.mul_assoc, Nat.mul_assoc, Nat.mul_left_comm p q 10]
          have e2 : s * (q * 10) = s * q * 10 := by rw [Nat.mul_assoc]
          have e3 : t * (p * 10) = t * p * 10 := by rw [Nat.mul_assoc]
          omega
        have lift' : ∀ s t : Nat, t * p < s * q → ((a.toNat - 48) * q + t) * (p * 10) < ((a.toNat - 48) * p + s) * (q * 10) := by
          intro s t hst
          rw [Nat.add_mul, Nat.add_mul]
          have e1 : (a.toNat - 48) * p * (q * 10) = (a.toNat - 48) * q * (p * 10) := by rw [Nat.mul_assoc, Nat.mul_assoc, Nat.mul_left_comm p q 10]
          have e2 : s * (q * 10) = s * q * 10 := by rw [Nat.mul_assoc]
          have e3 : t * (p * 10) = t * p * 10 := by rw [Nat.mul_assoc]
          omega
        rcases cmp_frac x y hx.2 hy.2 (NT_tail _ _ nx) (NT_tail _ _ ny) with ⟨h3, h4⟩ | ⟨h3, h4⟩ | ⟨h3, h4⟩
        · rw [← hp, ← hq] at h4
          exact Or.inl ⟨h3, lift _ _ h4⟩
        · exact Or.inr (Or.inl ⟨h3, by rw [h4]⟩)
        · rw [← hp, ← hq] at h4
          exact Or.inr (Or.inr ⟨h3, lift' _ _ h4⟩)

/-- three ways that a comparison may come out -/
def Three (r : Int) (a b : Int) : Prop := (r = -1 ∧ a < b) ∨ (r = 0 ∧ a = b) ∨ (r = 1 ∧ b < a)

def mag (n : Nat) (x : Dec) : Nat := val x.d * 10 ^ (x.e + n).toNat

theorem size_key (x y : Dec) (n : Nat) (hx : x.d ≠ []) (hy : y.d ≠ []) (dx : x.d.all dig = true) (dy : y.d.all dig = true) (fx : x.d.head? ≠ some 48) (fy : y.d.head? ≠ some 48) (nx : NT x.d) (ny : NT y.d) (ex : 0 ≤ x.e + n) (ey : 0 ≤ y.e + n) :
    Three (size x y) (mag n x) (mag n y) := by
  have lx : 0 < x.d.length := List.length_pos_iff.2 hx
  have ly : 0 < y.d.length := List.length_pos_iff.2 hy
  have vx1 := val_ge x.d hx dx fx
  have vx2 := val_lt x.d dx
  have vy1 := val_ge y.d hy dy fy
  have vy2 := val_lt y.d dy
  obtain ⟨p, hp⟩ : ∃ p, p = (x.e + n).toNat := ⟨_, rfl⟩
  obtain ⟨q, hq⟩ : ∃ q, q = (y.e + n).toNat := ⟨_, rfl⟩
  unfold mag
  rw [← hp, ← hq]
  have less : ∀ (u v : Nat) (l m p q : Nat), u < 10 ^ l → 10 ^ (m - 1) ≤ v → 0 < m → l + p < m + q → u * 10 ^ p < v * 10 ^ q := by
    intro u v l m p q h1 h2 h3 h4
    calc u * 10 ^ p < 10 ^ l * 10 ^ p := Nat.mul_lt_mul_of_pos_right h1 (Nat.pow_pos (by omega))
      _ = 10 ^ (l + p) := by rw [Nat.pow_add]
      _ ≤ 10 ^ (m - 1 + q) := Nat.pow_le_pow_right (by omega) (by omega)
      _ = 10 ^ (m - 1) * 10 ^ q := by rw [Nat.pow_add]
      _ ≤ v * 10 ^ q := Nat.mul_le_mul_right _ h2
  unfold size
  by_cases h1 : (x.d.length : Int) + x.e < y.d.length + y.e
  · rw [if_pos h1]
    left
    refine ⟨rfl, ?_⟩
    have := less _ _ _ _ p q vx2 vy1 ly (by omega)
    omega
  · rw [if_neg h1]
    by_cases h2 : (y.d.length : Int) + y.e < x.d.length + x.e
    · rw [if_pos h2]
      right; right
      refine ⟨rfl, ?_⟩
      have := less _ _ _ _ q p vy2 vx1 lx (by omega)
      omega
    · rw [if_neg h2]
      have hT : x.d.length + p = y.d.length + q := by omega
      have up : ∀ (u v : Nat) (l m p q : Nat), l + p = m + q → u * 10 ^ m < v * 10 ^ l → u * 10 ^ p < v * 10 ^ q := by
        intro u v l m p q h3 h4
        have h5 : u * 10 ^ m * 10 ^ (p + l) < v * 10 ^ l * 10 ^ (p + l) := Nat.mul_lt_mul_of_pos_right h4 (Nat.pow_pos (by omega))
        have e1 : u * 10 ^ m * 10 ^ (p + l) = u * 10 ^ p * 10 ^ (m + l) := by rw [Nat.mul_assoc, ← Nat.pow_add, Nat.mul_assoc, ← Nat.pow_add]; congr 2; omega
        have e2 : v * 10 ^ l * 10 ^ (p + l) = v * 10 ^ q * 10 ^ (m + l) := by rw [Nat.mul_assoc, ← Nat.pow_add, Nat.mul_assoc, ← Nat.pow_add]; congr 2; omega
        rw [e1, e2] at h5
        exact Nat.lt_of_mul_lt_mul_right h5
      rcases cmp_frac x.d y.d dx dy nx ny with ⟨h3, h4⟩ | ⟨h3, h4⟩ | ⟨h3, h4⟩
      · left
        refine ⟨h3, ?_⟩
        have := up _ _ _ _ p q hT h4
        omega
      · right; left
        refine ⟨h3, ?_⟩
        have : p = q := by rw [h4] at hT; omega
        rw [h4, this]
      · right; right
        refine ⟨h3, ?_⟩
        have := up _ _ _ _ q p hT.symm h4
        omega

def key (n : Nat) (x : Dec) : Int := if (norm x).neg = true then -(mag n (norm x) : Int) else (mag n (norm x) : Int)

theorem norm_neg_nil (x : Dec) (h : (norm x).d = []) : (norm x).neg = false := by
  unfold norm at h ⊢
  split
  · rfl
  · rename_i hc
    rw [if_neg hc] at h
    exact absurd h hc

theorem cmp_key (a b : Dec) (n : Nat) (da : a.d.all dig = true) (db : b.d.all dig = true) (ea : 0 ≤ (norm a).e + n) (eb : 0 ≤ (norm b).e + n) : Three (cmp a b) (key n a) (key n b) := by
  have na := norm_neg_nil a
  have nb := norm_neg_nil b
  have xa : (norm a).d.all dig = true := norm_all a da
  have xb : (norm b).d.all dig = true := norm_all b db
  have ha : (norm a).d.head? ≠ some 48 := by rw [norm_d]; exact core_head _
  have hb : (norm b).d.head? ≠ some 48 := by rw [norm_d]; exact core_head _
  have ta : NT (norm a).d := by rw [norm_d]; exact cutR_last _
  have tb : NT (norm b).d := by rw [norm_d]; exact cutR_last _
  unfold key cmp
  generalize norm a = x at *
  generalize norm b = y at *
  have zx : x.d = [] → mag n x = 0 := fun h => by unfold mag; rw [h]; simp [val]
  have zy : y.d = [] → mag n y = 0 := fun h => by unfold mag; rw [h]; simp [val]
  have px : x.d ≠ [] → 0 < mag n x := fun h => Nat.mul_pos (val_pos _ h xa ta) (Nat.pow_pos (by omega))
  have py : y.d ≠ [] → 0 < mag n y := fun h => Nat.mul_pos (val_pos _ h xb tb) (Nat.pow_pos (by omega))
  unfold cmpN
  by_cases h1 : x.d = []
  · have h3 := na h1
    have h4 := zx h1
    by_cases h2 : y.d = []
    · have h5 := nb h2
      have h6 := zy h2
      rw [if_pos ⟨h1, h2⟩, h3, h5, h4, h6]
      right; left
      exact ⟨rfl, by simp⟩
    · have h6 := py h2
      rw [if_neg (fun h => h2 h.2), h3, h4]
      cases hy : y.neg with
      | true =>
        rw [if_pos (Or.inl ⟨h1, rfl⟩)]
        right; right
        exact ⟨rfl, by simp; omega⟩
      | false =>
        rw [if_neg (by rintro (⟨_, h⟩ | ⟨h, _⟩); cases h; exact h2 h), if_pos (Or.inl h1)]
        left
        exact ⟨rfl, by simp; omega⟩
  · have h4 := px h1
    by_cases h2 : y.d = []
    · have h5 := nb h2
      have h6 := zy h2
      rw [if_neg (fun h => h1 h.1), h5, h6]
      cases hx : x.neg with
      | true =>
        rw [if_neg (by rintro (⟨h, _⟩ | ⟨_, h⟩); exact h1 h; cases h), if_pos (Or.inr h2)]
        left
        exact ⟨rfl, by simp; omega⟩
      | false =>
        rw [if_pos (Or.inr ⟨h2, rfl⟩)]
        right; right
        exact ⟨rfl, by simp; omega⟩
    · have h6 := py h2
      have s1 := size_key x y n h1 h2 xa xb ha hb ta tb ea eb
      have s2 := size_key y x n h2 h1 xb xa hb ha tb ta eb ea
      rw [if_neg (fun h => h1 h.1), if_neg (by rintro (⟨h, _⟩ | ⟨h, _⟩); exact h1 h; exact h2 h), if_neg (by rintro (h | h); exact h1 h; exact h2 h)]
      cases hx : x.neg <;> cases hy : y.neg
      · simp only [ne_eq, not_true_eq_false, false_and, if_false, Bool.false_eq_true]
        exact s1
      · simp only [ne_eq, Bool.false_eq_true, and_false, if_false, not_false_eq_true, if_true, reduceCtorEq]
        right; right
        exact ⟨rfl, by omega⟩
      · simp only [ne_eq, Bool.true_eq_false, Bool.false_eq_true, not_false_eq_true, and_self, if_true, if_false, reduceCtorEq]
        left
        exact ⟨rfl, by omega⟩
      · simp only [ne_eq, not_true_eq_false, false_and, if_false, if_true]
        rcases s2 with ⟨h, h'⟩ | ⟨h, h'⟩ | ⟨h, h'⟩
        · exact Or.inl ⟨h, by omega⟩
        · exact Or.inr (Or.inl ⟨h, by omega⟩)
        · exact Or.inr (Or.inr ⟨h, by omega⟩)

theorem Three.uniq {r s a b : Int} (h : Three r a b) (k : Three s a b) : r = s := by
  rcases h with ⟨h1, h2⟩ | ⟨h1, h2⟩ | ⟨h1, h2⟩ <;> rcases k with ⟨k1, k2⟩ | ⟨k1, k2⟩ | ⟨k1, k2⟩ <;> omega
theorem Three.anti {r s a b : Int} (h : Three r a b) (k : Three s b a) : r = -s := by
  rcases h with ⟨h1, h2⟩ | ⟨h1, h2⟩ | ⟨h1, h2⟩ <;> rcases k with ⟨k1, k2⟩ | ⟨k1, k2⟩ | ⟨k1, k2⟩ <;> omega
theorem Three.trans {p q r a b c : Int} (h : Three p a b) (k : Three q b c) (l : Three r a c) (hp : p ≤ 0) (hq : q ≤ 0) : r ≤ 0 := by
  rcases h with ⟨h1, h2⟩ | ⟨h1, h2⟩ | ⟨h1, h2⟩ <;> rcases k with ⟨k1, k2⟩ | ⟨k1, k2⟩ | ⟨k1, k2⟩ <;> rcases l with ⟨l1, l2⟩ | ⟨l1, l2⟩ | ⟨l1, l2⟩ <;> omega
theorem Three.bound {r a b : Int} (h : Three r a b) : -1 ≤ r ∧ r ≤ 1 := by
  rcases h with ⟨h1, h2⟩ | ⟨h1, h2⟩ | ⟨h1, h2⟩ <;> omega

theorem norm_flip_e (s : Bool) (d : Bs) (e : Int) : (norm ⟨!s, d, e⟩).e = (norm ⟨s, d, e⟩).e := by
  unfold norm; split <;> rfl
theorem key_flip (n : Nat) (s : Bool) (d : Bs) (e : Int) : key n ⟨!s, d, e⟩ = -key n ⟨s, d, e⟩ := by
  unfold key
  by_cases hc : core d = []
  · have h1 : norm ⟨!s, d, e⟩ = zero := by unfold norm; rw [if_pos hc]
    have h2 : norm ⟨s, d, e⟩ = zero := by unfold norm; rw [if_pos hc]
    rw [h1, h2]
    simp [zero, mag, val]
  · have h1 : norm ⟨!s, d, e⟩ = ⟨!s, core d, e + (((cutL d).length : Int) - ((core d).length : Int))⟩ := by unfold norm; rw [if_neg hc]
    have h2 : norm ⟨s, d, e⟩ = ⟨s, core d, e + (((cutL d).length : Int) - ((core d).length : Int))⟩ := by unfold norm; rw [if_neg hc]
    rw [h1, h2]
    cases s <;> simp [mag]
theorem key_norm (n : Nat) (x : Dec) : key n (norm x) = key n x := by unfold key; rw [norm_norm]
theorem key_digs (n : Nat) (s : Bool) (m : Nat) : key n ⟨s, digs m, 0⟩ = if s = true then -((m * 10 ^ n : Nat) : Int) else ((m * 10 ^ n : Nat) : Int) := by
  unfold key
  by_cases hc : core (digs m) = []
  · have h1 : norm ⟨s, digs m, 0⟩ = zero := by unfold norm; rw [if_pos hc]
    have h2 : m = 0 := by have := core_eq_nil_val _ hc; rwa [val_digs] at this
    rw [h1, h2]
    simp [zero, mag, val]
  · have h2 : norm ⟨s, digs m, 0⟩ = ⟨s, core (digs m), 0 + (((cutL (digs m)).length : Int) - ((core (digs m)).length : Int))⟩ := by unfold norm; rw [if_neg hc]
    have hle : (core (digs m)).length ≤ (cutL (digs m)).length := cutR_le _
    have hm : mag n ⟨s, core (digs m), 0 + (((cutL (digs m)).length : Int) - ((core (digs m)).length : Int))⟩ = m * 10 ^ n := by
      unfold mag
      show val (core (digs m)) * 10 ^ ((0 + (((cutL (digs m)).length : Int) - ((core (digs m)).length : Int))) + (n : Int)).toNat = _
      rw [show ((0 + (((cutL (digs m)).length : Int) - ((core (digs m)).length : Int))) + (n : Int)).toNat = ((cutL (digs m)).length - (core (digs m)).length) + n by omega, Nat.pow_add, ← Nat.mul_assoc, val_core, val_digs]
    rw [h2, hm]

/-- the order: of whole numbers that of integers -/
theorem cmp_ints (a b : Int) (n : Nat) (ha : 0 ≤ (norm ⟨decide (a < 0), digs a.natAbs, 0⟩).e + n) (hb : 0 ≤ (norm ⟨decide (b < 0), digs b.natAbs, 0⟩).e + n) :
    cmp (norm ⟨decide (a < 0), digs a.natAbs, 0⟩) (norm ⟨decide (b < 0), digs b.natAbs, 0⟩) = if a < b then -1 else if b < a then 1 else 0 := by
  have h := cmp_key (norm ⟨decide (a < 0), digs a.natAbs, 0⟩) (norm ⟨decide (b < 0), digs b.natAbs, 0⟩) n (norm_all _ (digs_all _)) (norm_all _ (digs_all _)) (by rw [norm_norm]; exact ha) (by rw [norm_norm]; exact hb)
  rw [key_norm, key_norm, key_digs, key_digs] at h
  have k : ∀ c : Int, (if decide (c < 0) = true then -((c.natAbs * 10 ^ n : Nat) : Int) else ((c.natAbs * 10 ^ n : Nat) : Int)) = c * ((10 ^ n : Nat) : Int) := by
    intro c
    rw [Int.natCast_mul]
    by_cases hc : c < 0
    · rw [if_pos (by simpa using hc), ← Int.neg_mul]; congr 1; omega
    · rw [if_neg (by simpa using hc)]; congr 1; omega
  rw [k, k] at h
  have hp : (0 : Int) < ((10 ^ n : Nat) : Int) := by exact_mod_cast Nat.pow_pos (by omega)
  refine h.uniq ?_
  by_cases h1 : a < b
  · rw [if_pos h1]; exact Or.inl ⟨rfl, Int.mul_lt_mul_of_pos_right h1 hp⟩
  · rw [if_neg h1]
    by_cases h2 : b < a
    · rw [if_pos h2]; exact Or.inr (Or.inr ⟨rfl, Int.mul_lt_mul_of_pos_right h2 hp⟩)
    · rw [if_neg h2]; exact Or.inr (Or.inl ⟨rfl, by rw [show a = b by omega]⟩)
end Go.Proofs.YtcpfooceadgccaaDoor.Dig
