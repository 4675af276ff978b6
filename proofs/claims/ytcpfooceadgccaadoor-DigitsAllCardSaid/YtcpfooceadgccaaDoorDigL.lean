/-
  Laws of numbers as digits, in plain Lean: noughts at either end, what is printed, the order.
-/
import Derived.Test.YtcpfooceadgccaaDoorDigM
import Derived.Lib.Bytealg
set_option linter.unusedVariables false
set_option linter.unusedSimpArgs false
set_option linter.unnecessarySimpa false
namespace Go.Proofs.YtcpfooceadgccaaDoor.Dig
open Go

/-- induction by the last one -/
theorem snocInd {p : Bs → Prop} (h0 : p []) (h1 : ∀ l b, p l → p (l ++ [b])) (l : Bs) : p l := by
  have key : ∀ m : Bs, p m.reverse := fun m => by
    induction m with
    | nil => exact h0
    | cons b m ih => rw [List.reverse_cons]; exact h1 _ _ ih
  have := key l.reverse
  rwa [List.reverse_reverse] at this

-- noughts at the front

theorem cutL_front (k : Nat) (l : Bs) : cutL (List.replicate k 48 ++ l) = cutL l := by
  induction k with
  | zero => rfl
  | succ k ih => rw [List.replicate_succ, List.cons_append]; unfold cutL at *; rw [List.dropWhile_cons]; simpa using ih

theorem all_noughts : ∀ (l : Bs), (∀ b ∈ l, b = 48) → l = List.replicate l.length 48
  | [], _ => rfl
  | b :: l, hl => by
    rw [List.length_cons, List.replicate_succ, hl b List.mem_cons_self, ← all_noughts l (fun c hc => hl c (List.mem_cons_of_mem _ hc))]

theorem takeWhile_noughts (l : Bs) : l.takeWhile (· == (48 : UInt8)) = List.replicate (l.takeWhile (· == (48 : UInt8))).length 48 := by
  refine all_noughts _ (fun b hb => ?_)
  induction l with
  | nil => simp at hb
  | cons c l ih =>
    rw [List.takeWhile_cons] at hb
    by_cases hc : c = 48
    · subst hc
      simp at hb
      rcases hb with hb | hb
      · exact hb
      · exact ih (by simpa using hb)
    · have : (c == (48 : UInt8)) = false := by simpa using hc
      rw [this] at hb
      simp at hb

theorem cutL_split (l : Bs) : ∃ k, l = List.replicate k 48 ++ cutL l :=
  ⟨_, by
    conv => lhs; rw [← List.takeWhile_append_dropWhile (p := (· == (48 : UInt8))) (l := l)]
    rw [takeWhile_noughts]
    rfl⟩

theorem cutR_split (l : Bs) : ∃ k, l = cutR l ++ List.replicate k 48 := by
  obtain ⟨k, hk⟩ := cutL_split l.reverse
  refine ⟨k, ?_⟩
  have := congrArg List.reverse hk
  rw [List.reverse_reverse, List.reverse_append, List.reverse_replicate] at this
  exact this

theorem cutR_back (k : Nat) (l : Bs) : cutR (l ++ List.replicate k 48) = cutR l := by
  have := cutL_front k l.reverse
  unfold cutR
  unfold cutL at this
  rw [List.reverse_append, List.reverse_replicate, this]

theorem cutL_head (l : Bs) : (cutL l).head? ≠ some 48 := by
  unfold cutL
  induction l with
  | nil => simp
  | cons c l ih =>
    rw [List.dropWhile_cons]
    split
    · exact ih
    · rename_i hc
      simpa using hc

theorem cutL_of_head (l : Bs) (hl : l.head? ≠ some 48) : cutL l = l := by
  cases l with
  | nil => rfl
  | cons c l =>
    unfold cutL
    have : (c == (48 : UInt8)) = false := by simpa using hl
    rw [List.dropWhile_cons, this]
    rfl

theorem cutL_cutL (l : Bs) : cutL (cutL l) = cutL l := cutL_of_head _ (cutL_head l)

theorem cutR_last (l : Bs) : (cutR l).getLast? ≠ some 48 := by
  unfold cutR
  rw [List.getLast?_reverse]
  exact cutL_head l.reverse

theorem cutR_cutR (l : Bs) : cutR (cutR l) = cutR l := by
  unfold cutR
  rw [List.reverse_reverse]
  exact congrArg List.reverse (cutL_cutL l.reverse)

theorem cutR_of_last (l : Bs) (b : UInt8) (hb : b ≠ 48) : cutR (l ++ [b]) = l ++ [b] := by
  unfold cutR
  have := cutL_of_head (l ++ [b]).reverse (by simpa using hb)
  unfold cutL at this
  rw [this, List.reverse_reverse]

theorem cutR_snoc (l : Bs) : cutR (l ++ [48]) = cutR l := cutR_back 1 l

theorem cutR_nil : cutR [] = [] := rfl

theorem cutR_le (l : Bs) : (cutR l).length ≤ l.length := by
  obtain ⟨k, hk⟩ := cutR_split l
  have := congrArg List.length hk
  rw [List.length_append] at this
  omega

theorem cutL_le (l : Bs) : (cutL l).length ≤ l.length := by
  obtain ⟨k, hk⟩ := cutL_split l
  have := congrArg List.length hk
  rw [List.length_append] at this
  omega

theorem core_head (l : Bs) : (core l).head? ≠ some 48 := by
  unfold core
  obtain ⟨k, hk⟩ := cutR_split (cutL l)
  cases hc : cutR (cutL l) with
  | nil => simp
  | cons c m =>
    rw [hc] at hk
    have := cutL_head l
    rw [hk] at this
    simpa using this

theorem core_core (l : Bs) : core (core l) = core l := by
  have e : core (core l) = cutR (cutL (core l)) := rfl
  rw [e, cutL_of_head _ (core_head l)]
  exact cutR_cutR _

theorem core_front (k : Nat) (l : Bs) : core (List.replicate k 48 ++ l) = core l := by unfold core; rw [cutL_front]

theorem cutL_back (k : Nat) (l : Bs) (hl : cutL l ≠ []) : cutL (l ++ List.replicate k 48) = cutL l ++ List.replicate k 48 := by
  obtain ⟨n, hn⟩ := cutL_split l
  conv => lhs; rw [hn]
  rw [List.append_assoc, cutL_front]
  refine cutL_of_head _ ?_
  have hh := cutL_head l
  cases hc : cutL l with
  | nil => exact absurd hc hl
  | cons c m => rw [hc] at hh; simpa using hh

theorem cutL_back_nil (k : Nat) (l : Bs) (hl : cutL l = []) : cutL (l ++ List.replicate k 48) = [] := by
  obtain ⟨n, hn⟩ := cutL_split l
  rw [hl, List.append_nil] at hn
  rw [hn, cutL_front]
  have := cutL_front k []
  rw [List.append_nil] at this
  rw [this]
  rfl

theorem core_back (k : Nat) (l : Bs) : core (l ++ List.replicate k 48) = core l := by
  unfold core
  by_cases hl : cutL l = []
  · rw [cutL_back_nil k l hl, hl]
  · rw [cutL_back k l hl, cutR_back]

theorem core_nil_cut (l : Bs) (hl : core l ≠ []) : cutL l ≠ [] := fun e => hl (by unfold core; rw [e]; rfl)

theorem norm_front (k : Nat) (s : Bool) (d : Bs) (e : Int) : norm ⟨s, List.replicate k 48 ++ d, e⟩ = norm ⟨s, d, e⟩ := by
  unfold norm
  simp only [core_front, cutL_front]

theorem norm_back (k : Nat) (s : Bool) (d : Bs) (e : Int) : norm ⟨s, d ++ List.replicate k 48, e⟩ = norm ⟨s, d, e + k⟩ := by
  unfold norm
  simp only [core_back]
  by_cases hc : core d = []
  · rw [if_pos hc, if_pos hc]
  · rw [if_neg hc, if_neg hc, cutL_back k d (core_nil_cut d hc), List.length_append, List.length_replicate]
    congr 1
    omega

theorem norm_d (x : Dec) : (norm x).d = core x.d := by
  unfold norm
  split
  · rename_i hc
    exact hc.symm
  · rfl

theorem norm_norm (x : Dec) : norm (norm x) = norm x := by
  by_cases hc : core x.d = []
  · have e : norm x = zero := by unfold norm; rw [if_pos hc]
    rw [e]
    rfl
  · have e : norm x = ⟨x.neg, core x.d, x.e + (((cutL x.d).length : Int) - ((core x.d).length : Int))⟩ := by unfold norm; rw [if_neg hc]
    rw [e]
    unfold norm
    simp only [core_core]
    rw [if_neg hc, cutL_of_head _ (core_head _)]
    congr 1
    omega

-- values

theorem val_snoc (l : Bs) (b : UInt8) : val (l ++ [b]) = 10 * val l + (b.toNat - 48) := by
  unfold val
  rw [List.foldl_append]
  rfl

theorem val_back (l : Bs) : ∀ k, val (l ++ List.replicate k 48) = val l * 10 ^ k
  | 0 => by simp
  | k + 1 => by
    rw [List.replicate_succ', ← List.append_assoc, val_snoc, val_back l k, Nat.pow_succ]
    have : (48 : UInt8).toNat - 48 = 0 := rfl
    rw [this, Nat.add_zero, Nat.mul_left_comm, Nat.mul_comm 10]

theorem val_front (k : Nat) (l : Bs) : val (List.replicate k 48 ++ l) = val l := by
  have e : ∀ k, (List.replicate k (48 : UInt8)).foldl (fun n b => 10 * n + (b.toNat - 48)) 0 = 0 := fun k => by
    induction k with
    | zero => rfl
    | succ k ih => rw [List.replicate_succ, List.foldl_cons]; exact ih
  unfold val
  rw [List.foldl_append, e]

theorem val_cutL (l : Bs) : val (cutL l) = val l := by
  obtain ⟨k, hk⟩ := cutL_split l
  conv => rhs; rw [hk]
  rw [val_front]

theorem val_core (l : Bs) : val (core l) * 10 ^ ((cutL l).length - (core l).length) = val l := by
  obtain ⟨k, hk⟩ := cutR_split (cutL l)
  have hn := congrArg List.length hk
  rw [List.length_append, List.length_replicate] at hn
  have : (cutL l).length - (core l).length = k := by unfold core; omega
  rw [this, ← val_back, ← val_cutL l]
  exact congrArg val hk.symm

theorem all_dig_snoc (l : Bs) (b : UInt8) : (l ++ [b]).all dig = (l.all dig && dig b) := by simp

theorem dig_le (b : UInt8) (hb : dig b = true) : 48 ≤ b.toNat ∧ b.toNat ≤ 57 := by
  unfold dig at hb
  simpa using hb

theorem take_all (l : Bs) (k : Nat) (hl : l.all dig = true) : (l.take k).all dig = true := by
  rw [List.all_eq_true] at hl ⊢
  exact fun b hb => hl b (List.mem_of_mem_take hb)
theorem all_mem (l : Bs) (k : Nat) (c : UInt8) (hl : l.all dig = true) (hc : l[k]? = some c) : dig c = true := by
  rw [List.all_eq_true] at hl
  exact hl c (List.mem_of_getElem? hc)
theorem cutL_sub (l : Bs) : ∀ b, b ∈ cutL l → b ∈ l := fun b hb => (List.dropWhile_sublist _).subset hb
theorem cutR_sub (l : Bs) : ∀ b, b ∈ cutR l → b ∈ l := fun b hb => by
  unfold cutR at hb
  have := (List.dropWhile_sublist (· == 48)).subset (List.mem_reverse.1 hb)
  simpa using this
theorem core_all (l : Bs) (hl : l.all dig = true) : (core l).all dig = true := by
  rw [List.all_eq_true] at hl ⊢
  exact fun b hb => hl b (cutL_sub l b (cutR_sub _ b hb))
theorem core_le (l : Bs) : (core l).length ≤ l.length := Nat.le_trans (cutR_le _) (cutL_le l)
theorem norm_e_bound (x : Dec) (hl : x.d.length ≤ 1000000000000) (he : x.e ≤ 1000000000000) (he' : -1000000000000 ≤ x.e) : (norm x).e ≤ 2000000000000 ∧ -2000000000000 ≤ (norm x).e := by
  have h1 := cutL_le x.d
  have h2 : (core x.d).length ≤ (cutL x.d).length := cutR_le _
  unfold norm
  split
  · exact ⟨by decide, by decide⟩
  · constructor
    · show x.e + _ ≤ _; omega
    · show _ ≤ x.e + _; omega

theorem val_lt (l : Bs) : l.all dig = true → val l < 10 ^ l.length := by
  induction l using snocInd with
  | h0 => intro _; decide
  | h1 l b ih =>
    intro hl
    rw [all_dig_snoc, Bool.and_eq_true] at hl
    have := ih hl.1
    have := dig_le b hl.2
    rw [val_snoc, List.length_append, List.length_singleton, Nat.pow_succ]
    omega

theorem val_ge (l : Bs) (hl : l ≠ []) (hd : l.all dig = true) (hh : l.head? ≠ some 48) : 10 ^ (l.length - 1) ≤ val l := by
  induction l using snocInd with
  | h0 => exact absurd rfl hl
  | h1 l b ih =>
    rw [all_dig_snoc, Bool.and_eq_true] at hd
    have hb := dig_le b hd.2
    rw [val_snoc, List.length_append, List.length_singleton]
    by_cases hn : l = []
    · subst hn
      have : b ≠ 48 := by simpa using hh
      have : b.toNat ≠ 48 := fun e => this (UInt8.toNat_inj.1 (by rw [e]; rfl))
      simp [val]
      omega
    · have hh' : l.head? ≠ some 48 := by
        cases l with
        | nil => exact absurd rfl hn
        | cons c m => simpa using hh
      have := ih hn hd.1 hh'
      have hlen : 0 < l.length := List.length_pos_iff.2 hn
      have e : l.length + 1 - 1 = (l.length - 1) + 1 := by omega
      rw [e, Nat.pow_succ]
      omega

-- what is printed

theorem digs_ne (n : Nat) : digs n ≠ [] := by
  unfold digs
  split <;> simp

theorem toNat_digit (k : Nat) (hk : k < 10) : (fig k).toNat = 48 + k := by
  unfold fig
  rw [UInt8.toNat_ofNat']
  omega

theorem dig_digit (k : Nat) (hk : k < 10) : dig (fig k) = true := by
  unfold dig
  rw [toNat_digit k hk]
  simp
  omega

theorem digs_all (n : Nat) : (digs n).all dig = true := by
  induction n using Nat.strongRecOn with
  | ind n ih =>
    unfold digs
    split
    · rename_i hn
      simp [dig_digit n hn]
    · rw [all_dig_snoc, ih (n / 10) (by omega), dig_digit _ (by omega)]
      rfl

theorem val_digs (n : Nat) : val (digs n) = n := by
  induction n using Nat.strongRecOn with
  | ind n ih =>
    unfold digs
    split
    · rename_i hn
      show 10 * 0 + ((fig n).toNat - 48) = n
      rw [toNat_digit n hn]
      omega
    · rw [val_snoc, ih (n / 10) (by omega), toNat_digit _ (by omega)]
      omega

theorem digs_head (n : Nat) (hn : 0 < n) : (digs n).head? ≠ some 48 := by
  induction n using Nat.strongRecOn with
  | ind n ih =>
    unfold digs
    split
    · rename_i hlt
      have := toNat_digit n hlt
      simp
      intro e
      rw [e] at this
      have h48 : (48 : UInt8).toNat = 48 := rfl
      omega
    · have := ih (n / 10) (by omega) (by omega)
      cases hd : digs (n / 10) with
      | nil => exact absurd hd (digs_ne _)
      | cons c m => rw [hd] at this; simpa using this

theorem digs_zero : digs 0 = [48] := by unfold digs; rfl

theorem core_digs_ne (n : Nat) (hn : 0 < n) : core (digs n) ≠ [] := by
  intro e
  have := val_core (digs n)
  rw [e, val_digs] at this
  simp [val] at this
  omega

-- a text of digits alone is read

theorem run_all (l : Bs) (hl : l.all dig = true) : run l = l.length := by
  unfold run
  induction l with
  | nil => rfl
  | cons b l ih =>
    rw [List.all_cons, Bool.and_eq_true] at hl
    rw [List.takeWhile_cons, hl.1]
    simpa using ih hl.2

theorem run_lt (l : Bs) : ∀ (n : Nat), n < run l → ∃ b, l[n]? = some b ∧ 48 ≤ b.toNat ∧ b.toNat ≤ 57 := by
  induction l with
  | nil => intro n hn; simp [run] at hn
  | cons c l ih =>
    intro n hn
    unfold run at hn
    rw [List.takeWhile_cons] at hn
    cases hc : dig c with
    | false => rw [hc] at hn; simp at hn
    | true =>
      rw [hc] at hn
      cases n with
      | zero => exact ⟨c, rfl, dig_le c hc⟩
      | succ n => exact ih n (by unfold run; simpa using hn)

theorem run_end (l : Bs) : l[run l]? = none ∨ ∃ b, l[run l]? = some b ∧ (¬ 48 ≤ b.toNat ∨ (48 ≤ b.toNat ∧ ¬ b.toNat ≤ 57)) := by
  induction l with
  | nil => left; rfl
  | cons c l ih =>
    cases hc : dig c with
    | false =>
      right
      have e : run (c :: l) = 0 := by unfold run; rw [List.takeWhile_cons, hc]; rfl
      rw [e]
      refine ⟨c, rfl, ?_⟩
      unfold dig at hc
      simp at hc
      omega
    | true =>
      have e : run (c :: l) = run l + 1 := by unfold run; rw [List.takeWhile_cons, hc]; rfl
      rw [e]
      simpa using ih

theorem run_app (l m : Bs) (hl : l.all dig = true) (hm : ∀ b, m.head? = some b → dig b = false) : run (l ++ m) = l.length := by
  unfold run
  rw [List.takeWhile_append_of_pos (by simpa using hl)]
  cases m with
  | nil => simp
  | cons b m => rw [List.takeWhile_cons, hm b rfl]; simp

-- the order of bytes

theorem cmp_same : ∀ (a : Bs), Lib.compareBytes a a = 0
  | [] => rfl
  | x :: a => by
    unfold Lib.compareBytes
    rw [if_neg (by rw [UInt8.lt_iff_toNat_lt]; omega), if_neg (by rw [UInt8.lt_iff_toNat_lt]; omega)]
    exact cmp_same a

theorem cmp_less : ∀ (a b : Bs), Op.bytesLess a b = true → Lib.compareBytes a b = -1
  | [], [], h1 => by simp [Op.bytesLess] at h1
  | [], _ :: _, _ => rfl
  | _ :: _, [], h1 => by simp [Op.bytesLess] at h1
  | x :: a, y :: b, h1 => by
    unfold Op.bytesLess at h1
    unfold Lib.compareBytes
    by_cases hxy : x < y
    · rw [if_pos hxy]
    · rw [if_neg hxy]
      simp [hxy] at h1
      obtain ⟨rfl, h1⟩ := h1
      rw [if_neg hxy]
      exact cmp_less a b h1

theorem cmp_more : ∀ (a b : Bs), Op.bytesLess a b = false → a ≠ b → Lib.compareBytes a b = 1
  | [], [], _, h2 => absurd rfl h2
  | [], _ :: _, h1, _ => by simp [Op.bytesLess] at h1
  | _ :: _, [], _, _ => rfl
  | x :: a, y :: b, h1, h2 => by
    unfold Op.bytesLess at h1
    unfold Lib.compareBytes
    simp at h1
    have hxy : ¬ x < y := by rw [UInt8.lt_iff_toNat_lt]; have := h1.1; rw [UInt8.le_iff_toNat_le] at this; omega
    rw [if_neg hxy]
    by_cases hyx : y < x
    · rw [if_pos hyx]
    · rw [if_neg hyx]
      have e : x = y := by
        rw [UInt8.lt_iff_toNat_lt] at hxy hyx
        exact UInt8.toNat_inj.1 (by omega)
      subst e
      exact cmp_more a b (h1.2 rfl) (fun e => h2 (by rw [e]))

end Go.Proofs.YtcpfooceadgccaaDoor.Dig
