/-
  Numbers byte by byte: what is refused is hopeless, in plain Lean.
-/
import Derived.Test.YthdncmagfgoboaaGreatDoorNumV
set_option linter.unusedVariables false
set_option linter.unusedSimpArgs false
namespace Go.Proofs.YthdncmagfgoboaaGreatDoor.Num
open Go
open Go.Proofs.YthdncmagfgoboaaGreatDoor.Dig (Bs run dig val core cutL cutR norm)

/-- a text that is read, whole, and within -/
def Good (u : Bs) : Prop := ∃ d, Dig.read u = some d ∧ (Dig.int d).2 = 0

theorem split_mid (D : Bs) (hD : D.all dig = true) : D = List.replicate D.length 48 ∨ ∃ a C z, D = List.replicate a 48 ++ (C ++ List.replicate z 48) ∧ Nz C := by
  by_cases h : cutL D = []
  · left
    apply Dig.all_noughts
    have := (Dig.dropWhile_nil_iff (· == 48) D).1 h
    rw [List.all_eq_true] at this
    intro b hb
    have := this b hb
    simpa using this
  · right
    obtain ⟨a, ha⟩ := Dig.cutL_split D
    obtain ⟨z, hz⟩ := Dig.cutR_split (cutL D)
    refine ⟨a, cutR (cutL D), z, ?_, ⟨?_, ?_, ?_, ?_⟩⟩
    · rw [← hz, ← ha]
    · exact Dig.core_all D hD
    · intro e
      rw [e, List.nil_append] at hz
      cases z with
      | zero => exact h hz
      | succ z =>
        have := Dig.cutL_head D
        rw [hz, List.replicate_succ] at this
        simp at this
    · exact Dig.core_head D
    · exact Dig.cutR_last _

-- what is read no more

theorem expDigits_bad (u : Bs) (h : u.all dig = false) : Dig.expDigits u = none := by unfold Dig.expDigits; rw [if_pos (Or.inr h)]
theorem readExp_other {c : UInt8} (h : ¬ (c.toNat = 101 ∨ c.toNat = 69)) (m : Bs) : Dig.readExp (c :: m) = none := by
  rw [readExp_cons, if_neg]
  intro e
  rw [Bool.or_eq_true, beq_iff_eq, beq_iff_eq] at e
  rcases e with e | e <;> subst e <;> exact h (by decide)
theorem readExp_x {eb : UInt8} (h : eb = 101 ∨ eb = 69) (sg y : Bs) (hs : sg = [] ∨ sg = [45] ∨ sg = [43]) (hy : y.all dig = false) (hh : sg = [] → ¬ y.head? = some 45 ∧ ¬ y.head? = some 43) : Dig.readExp (eb :: (sg ++ y)) = none := by
  have he : (eb == 101 || eb == 69) = true := by rcases h with rfl | rfl <;> rfl
  rw [readExp_cons, if_pos he]
  rcases hs with rfl | rfl | rfl
  · obtain ⟨h1, h2⟩ := hh rfl
    rw [List.nil_append, if_neg h1, if_neg h2, expDigits_bad y hy]; rfl
  · simp [expDigits_bad y hy]
  · simp [expDigits_bad y hy]
theorem all_mid_bad (x m : Bs) {c : UInt8} (h : dig c = false) : (x ++ c :: m).all dig = false := by rw [List.all_append, List.all_cons, h]; simp

theorem head_bad {c : UInt8} (m : Bs) (h : dig c = false) : ∀ b, (c :: m : Bs).head? = some b → dig b = false := by
  intro b hb; injection hb with hb; subst hb; exact h
theorem run_bad {c : UInt8} (m : Bs) (h : dig c = false) : run (c :: m) = 0 := by
  unfold Dig.run
  rw [List.takeWhile_cons, h]
  rfl

theorem read_bad (t : T) (v : t.V) (c : UInt8) (m : Bs) (h : next t.at_ c.toNat = none) : Dig.read (t.text ++ c :: m) = none := by
  have hrm := read_man t v
  have hmu := man_u t v
  obtain ⟨v1, v2, v3, v4, v5, v6, v7, v8, v9⟩ := v
  obtain ⟨neg, d, pt, f, ex, eb, sg, x⟩ := t
  simp only at v1 v2 v3 v4 v5 v6 v7 v8 v9
  unfold T.at_ at h
  simp only [T.man] at hrm hmu
  simp only [T.text, T.man, T.tail]
  simp only at h
  cases ex with
  | true =>
    obtain ⟨w1, w2, w3⟩ := v8 rfl
    rw [if_pos rfl] at h
    have hx : Dig.readExp (eb :: (sg ++ (x ++ c :: m))) = none := by
      by_cases hx : x = []
      · subst hx
        by_cases hs : sg = []
        · subst hs
          simp [next] at h
          split at h
          · cases h
          · rename_i h1
            split at h
            · cases h
            · rename_i h2
              refine readExp_x w3 [] _ (.inl rfl) (all_mid_bad [] m (not_dig h2)) (fun _ => ⟨fun e => ?_, fun e => ?_⟩)
              · injection e with e; subst e; exact h1 (.inl rfl)
              · injection e with e; subst e; exact h1 (.inr rfl)
        · simp [next, hs] at h
          exact readExp_x w3 sg _ v9 (all_mid_bad [] m (not_dig (by omega))) (fun e => absurd e hs)
      · simp [next, hx] at h
        refine readExp_x w3 sg _ v9 (all_mid_bad x m (not_dig (by omega))) (fun _ => ?_)
        cases x with
        | nil => exact absurd rfl hx
        | cons a r =>
          have := head_dig v3
          exact ⟨fun e => this 45 rfl e, fun e => this 43 rfl e⟩
    have h1 := hrm w1 w2 (eb :: (sg ++ (x ++ c :: m))) (e_head w3 _) (e_ne w3 _)
    rw [hx] at h1
    simpa using h1
  | false =>
    obtain ⟨rfl, rfl⟩ := v6 rfl
    rw [if_neg (by simp)] at h
    simp only [if_neg (show ¬ (false = true) by simp), List.append_nil]
    cases pt with
    | true =>
      have w1 := v7 rfl
      rw [if_pos rfl] at h
      simp only [if_true] at hmu ⊢
      have hc : dig c = false := not_dig (by
        by_cases hf : f = []
        · simp [next, hf] at h; omega
        · simp [next, hf] at h
          split at h
          · cases h
          · split at h
            · cases h
            · assumption)
      have e0 : (if neg = true then [45] else []) ++ (d ++ 46 :: f) ++ c :: m = (if neg = true then [45] else []) ++ ((d ++ 46 :: f) ++ c :: m) := by simp
      rw [e0, read_pre _ _ (hmu w1 _), List.append_assoc, List.cons_append]
      by_cases hf : f = []
      · subst hf
        have hr := run_of d (46 :: c :: m) v1 (fun b hb => by injection hb with hb; subst hb; rfl)
        have h1 := List.length_pos_iff.2 w1
        unfold Dig.readBody
        have e1 : (d ++ 46 :: c :: m).drop (d.length + 1) = c :: m := by rw [List.drop_append]; simp
        have hh : (d ++ 46 :: c :: m).head? = d.head? := head_app d _ w1
        have n1 : ¬ (d.length = 0 ∨ (1 < d.length ∧ d.head? = some 48)) := by
          rintro (e | e)
          · omega
          · exact v4 e
        rw [List.nil_append, hr, hh, List.drop_left, e1, if_neg n1, if_pos (by rfl), if_pos (run_bad m hc)]
      · have hE : Dig.readExp (c :: m) = none := readExp_other (by
          simp [next, hf] at h
          split at h
          · cases h
          · assumption) m
        rw [readBody_pt neg d f (c :: m) v1 w1 v4 v2 hf (head_bad m hc), hE]
        rfl
    | false =>
      have w2 := v5 rfl
      subst w2
      rw [if_neg (by simp)] at h
      simp only [if_neg (show ¬ (false = true) by simp), List.append_nil] at hmu ⊢
      by_cases hd : d = []
      · subst hd
        rw [if_pos rfl] at h
        cases neg with
        | true =>
          simp [next] at h
          have hc : dig c = false := not_dig (by
            split at h
            · cases h
            · split at h
              · cases h
              · assumption)
          show Dig.readBody true (c :: m) = none
          unfold Dig.readBody
          rw [if_pos (Or.inl (run_bad m hc))]
        | false =>
          simp [next] at h
          have hc : dig c = false := not_dig (by
            split at h
            · cases h
            · split at h
              · cases h
              · split at h
                · cases h
                · assumption)
          have h45 : ¬ c = 45 := fun e => by subst e; simp at h
          show (if (c :: m : Bs).head? = some 45 then _ else Dig.readBody false (c :: m)) = none
          rw [if_neg (by simpa using h45)]
          unfold Dig.readBody
          rw [if_pos (Or.inl (run_bad m hc))]
      · rw [if_neg hd] at h
        have e0 : (if neg = true then [45] else []) ++ d ++ c :: m = (if neg = true then [45] else []) ++ (d ++ c :: m) := by simp
        rw [e0, read_pre _ _ (hmu hd _)]
        have h1 := List.length_pos_iff.2 hd
        have key : dig c = false → ¬ c = 46 → ¬ (c.toNat = 101 ∨ c.toNat = 69) → Dig.readBody neg (d ++ c :: m) = none := fun a1 a2 a3 => by
          rw [readBody_app neg d (c :: m) v1 hd v4 (head_bad m a1) (by simpa using a2), readExp_other a3 m]
          rfl
        by_cases h48 : d.head? = some 48
        · rw [if_pos h48] at h
          simp [next] at h
          split at h
          · cases h
          · rename_i g1
            split at h
            · cases h
            · rename_i g2
              cases hdc : dig c with
              | false => exact key hdc (fun e => g1 (by rw [e]; rfl)) g2
              | true =>
                have hdl : d.length = 1 := by
                  rcases Decidable.em (1 < d.length) with e | e
                  · exact absurd ⟨e, h48⟩ v4
                  · omega
                unfold Dig.readBody
                rw [if_pos]
                right
                refine ⟨?_, by rw [head_app d _ hd]; exact h48⟩
                cases d with
                | nil => exact absurd rfl hd
                | cons a r =>
                  cases r with
                  | cons _ _ => simp at hdl
                  | nil =>
                    have ha : dig a = true := by simpa using v1
                    show 1 < run (a :: c :: m)
                    unfold Dig.run
                    rw [List.takeWhile_cons, ha, if_pos rfl, List.takeWhile_cons, hdc, if_pos rfl]
                    simp
        · rw [if_neg h48] at h
          simp [next] at h
          split at h
          · cases h
          · rename_i g1
            split at h
            · cases h
            · rename_i g2
              split at h
              · cases h
              · rename_i g3
                exact key (not_dig g1) (fun e => g2 (by rw [e]; rfl)) g3

-- byte by byte

def T.go : T → Bs → Option T
  | t, [] => some t
  | t, c :: m => match next t.at_ c.toNat with
    | none => none
    | some p => (t.step c p).go m

/-- what stays of a text that goes on -/
structure Ext (t t' : T) : Prop where
  y : ∃ y, t'.d ++ t'.f = (t.d ++ t.f) ++ y
  ex : t.ex = true → t'.ex = true ∧ t'.d = t.d ∧ t'.f = t.f ∧ (t.sg ≠ [] ∨ t.x ≠ [] → t'.sg = t.sg) ∧ ∃ z, t'.x = t.x ++ z
theorem Ext.refl (t : T) : Ext t t := ⟨⟨[], by simp⟩, fun h => ⟨h, rfl, rfl, fun _ => rfl, [], by simp⟩⟩
theorem Ext.trans {a b c : T} (h : Ext a b) (k : Ext b c) : Ext a c := by
  obtain ⟨⟨y, hy⟩, he⟩ := h
  obtain ⟨⟨y2, hy2⟩, ke⟩ := k
  refine ⟨⟨y ++ y2, by rw [hy2, hy]; simp⟩, fun hx => ?_⟩
  obtain ⟨h1, h2, h3, h4, z, h5⟩ := he hx
  obtain ⟨k1, k2, k3, k4, z2, k5⟩ := ke h1
  refine ⟨k1, by rw [k2, h2], by rw [k3, h3], fun hs => ?_, z ++ z2, by rw [k5, h5]; simp⟩
  rw [k4 ?_, h4 hs]
  rcases hs with hs | hs
  · left; rw [h4 (.inl hs)]; exact hs
  · right; rw [h5]; simp [hs]

theorem step_ext (t : T) (v : t.V) (c : UInt8) (p : Nat) (h : next t.at_ c.toNat = some p) : Ext t (t.step c p) := by
  obtain ⟨v1, v2, v3, v4, v5, v6, v7, v8, v9⟩ := v
  obtain ⟨neg, d, pt, f, ex, eb, sg, x⟩ := t
  simp only at v1 v2 v3 v4 v5 v6 v7 v8 v9
  unfold T.at_ at h
  simp only at h
  cases ex with
  | true =>
    rw [if_pos rfl] at h
    by_cases hx : x = []
    · subst hx
      by_cases hs : sg = []
      · subst hs
        simp [next] at h
        split at h
        · injection h with h; subst h
          exact ⟨⟨[], by simp [T.step]⟩, fun _ => ⟨rfl, rfl, rfl, fun e => by simp at e, [], by simp [T.step]⟩⟩
        · split at h
          · injection h with h; subst h
            exact ⟨⟨[], by simp [T.step]⟩, fun _ => ⟨rfl, rfl, rfl, fun e => rfl, [c], by simp [T.step]⟩⟩
          · cases h
      · simp [next, hs] at h
        obtain ⟨hc, rfl⟩ := h
        exact ⟨⟨[], by simp [T.step]⟩, fun _ => ⟨rfl, rfl, rfl, fun e => rfl, [c], by simp [T.step]⟩⟩
    · simp [next, hx] at h
      obtain ⟨hc, rfl⟩ := h
      exact ⟨⟨[], by simp [T.step]⟩, fun _ => ⟨rfl, rfl, rfl, fun e => rfl, [c], by simp [T.step]⟩⟩
  | false =>
    refine ⟨?_, fun e => by simp at e⟩
    rw [if_neg (by simp)] at h
    cases pt with
    | true =>
      rw [if_pos rfl] at h
      by_cases hf : f = []
      · subst hf
        simp [next] at h
        obtain ⟨hc, rfl⟩ := h
        exact ⟨[c], by simp [T.step]⟩
      · simp [next, hf] at h
        split at h
        · injection h with h; subst h
          exact ⟨[], by simp [T.step]⟩
        · split at h
          · injection h with h; subst h
            exact ⟨[c], by simp [T.step]⟩
          · cases h
    | false =>
      have w2 := v5 rfl
      subst w2
      rw [if_neg (by simp)] at h
      have hp : p = 1 ∨ p = 2 ∨ p = 3 ∨ p = 4 ∨ p = 6 := by
        have := h
        unfold next at this
        simp only at this
        by_cases hd : d = []
        · rw [if_pos hd] at this
          cases neg <;> simp at this <;> (repeat' split at this) <;> first | (injection this with this; omega) | (cases this) | omega
        · rw [if_neg hd] at this
          by_cases h48 : d.head? = some 48 <;> simp [h48] at this <;> (repeat' split at this) <;> first | (injection this with this; omega) | (cases this) | omega
      rcases hp with rfl | rfl | rfl | rfl | rfl
      · exact ⟨[], by simp [T.step]⟩
      · exact ⟨[c], by simp [T.step]⟩
      · exact ⟨[c], by simp [T.step]⟩
      · exact ⟨[], by simp [T.step]⟩
      · exact ⟨[], by simp [T.step]⟩

theorem go_some : ∀ (m : Bs) (t t' : T), t.V → t.go m = some t' → t'.V ∧ t'.text = t.text ++ m ∧ Ext t t'
  | [], t, t', v, h => by
    unfold T.go at h
    injection h with h
    subst h
    exact ⟨v, by simp, Ext.refl _⟩
  | c :: m, t, t', v, h => by
    unfold T.go at h
    split at h
    · cases h
    · rename_i p hp
      obtain ⟨s1, s2, s3⟩ := step_ok t v c p hp
      obtain ⟨g1, g2, g3⟩ := go_some m _ t' s1 h
      exact ⟨g1, by rw [g2, s2]; simp, (step_ext t v c p hp).trans g3⟩
theorem go_none : ∀ (m : Bs) (t : T), t.V → t.go m = none → Dig.read (t.text ++ m) = none
  | [], t, v, h => by unfold T.go at h; cases h
  | c :: m, t, v, h => by
    unfold T.go at h
    split at h
    · rename_i hp
      exact read_bad t v c m hp
    · rename_i p hp
      obtain ⟨s1, s2, s3⟩ := step_ok t v c p hp
      have := go_none m _ s1 h
      rw [s2] at this
      simpa using this

-- what is good may become one at each place

theorem int_ok' {C : Bs} (h : Nz C) (s : Bool) (e : Int) (hi : (Dig.int ⟨s, C, e⟩).2 = 0) : 0 ≤ e ∧ val C * 10 ^ e.toNat ≤ maxW := by
  unfold Dig.int at hi
  rw [h.norm] at hi
  unfold Dig.intN at hi
  dsimp only at hi
  split at hi
  · simp at hi
  · split at hi
    · simp at hi
    · split at hi
      · simp at hi
      · refine ⟨by omega, ?_⟩
        unfold maxW
        omega

theorem val_pre (l : Bs) : ∀ m : Bs, val l ≤ val (l ++ m) := by
  intro m
  induction m using Dig.snocInd with
  | h0 => simp
  | h1 m b ih => rw [← List.append_assoc, Dig.val_snoc]; omega

/-- the digits' core with more digits behind it: no less -/
theorem core_more (C : Bs) (hC : Nz C) (a z : Nat) (y : Bs) (hy : (List.replicate a 48 ++ (C ++ List.replicate z 48) ++ y : Bs).all dig = true) :
    ∃ C' z', List.replicate a 48 ++ (C ++ List.replicate z 48) ++ y = List.replicate a 48 ++ (C' ++ List.replicate z' 48) ∧ Nz C' ∧ val C ≤ val C' := by
  rw [List.append_assoc, List.all_append, Bool.and_eq_true] at hy
  obtain ⟨z', hz⟩ := Dig.cutR_split (C ++ List.replicate z 48 ++ y)
  have hpre : cutR (C ++ List.replicate z 48 ++ y) = C ++ (cutR (C ++ List.replicate z 48 ++ y)).drop C.length := by
    have hlen : C.length ≤ (cutR (C ++ List.replicate z 48 ++ y)).length := by
      rcases Nat.lt_or_ge (cutR (C ++ List.replicate z 48 ++ y)).length C.length with e | e
      · exfalso
        have hne := List.length_pos_iff.2 hC.ne
        have h1 : (C ++ List.replicate z 48 ++ y)[C.length - 1]? = C[C.length - 1]? := by
          rw [List.append_assoc, List.getElem?_append_left (by omega)]
        have h2 : (C ++ List.replicate z 48 ++ y)[C.length - 1]? = some 48 := by
          have hL := congrArg List.length hz
          simp only [List.length_append, List.length_replicate] at hL
          rw [hz, List.getElem?_append_right (by omega), List.getElem?_replicate, if_pos (by omega)]
        have h3 := hC.lt
        rw [List.getLast?_eq_getElem?, ← h1, h2] at h3
        exact h3 rfl
      · exact e
    have h4 : (cutR (C ++ List.replicate z 48 ++ y)).take C.length = C := by
      have e1 : (C ++ List.replicate z 48 ++ y).take C.length = C := by rw [List.append_assoc, List.take_left]
      rw [hz, List.take_append_of_le_length hlen] at e1
      exact e1
    conv => lhs; rw [← List.take_append_drop C.length (cutR (C ++ List.replicate z 48 ++ y)), h4]
  refine ⟨cutR (C ++ List.replicate z 48 ++ y), z', ?_, ⟨?_, ?_, ?_, Dig.cutR_last _⟩, ?_⟩
  · rw [← hz]; simp
  · rw [List.all_eq_true]
    intro b hb
    exact List.all_eq_true.1 hy.2 b (Dig.cutR_sub _ b hb)
  · rw [hpre]; intro e; exact hC.ne (List.append_eq_nil_iff.1 e).1
  · rw [hpre, head_app _ _ hC.ne]; exact hC.hd
  · rw [hpre]; exact val_pre _ _

theorem mostN_ge : ∀ (f m k : Nat), 1 ≤ m → k ≤ f → m * 10 ^ k ≤ maxW → k ≤ mostN f m
  | 0, _, k, _, h, _ => by omega
  | f + 1, m, k, h0, h1, h2 => by
    unfold mostN
    cases k with
    | zero => omega
    | succ k =>
      have e : m * 10 ^ (k + 1) = (10 * m) * 10 ^ k := by rw [Nat.pow_succ, Nat.mul_comm 10 m, Nat.mul_assoc, Nat.mul_comm 10]
      have h3 : 10 * m ≤ maxW := by
        rw [e] at h2
        exact Nat.le_trans (Nat.le_mul_of_pos_right _ (Nat.pow_pos (by omega))) h2
      unfold maxW at h3
      rw [if_pos (by omega)]
      have := mostN_ge f (10 * m) k (by omega) (by omega) (by rw [← e]; exact h2)
      omega
theorem most_ge (m k : Nat) (h0 : 1 ≤ m) (h : m * 10 ^ k ≤ maxW) : k ≤ most m := by
  refine mostN_ge 16 m k h0 ?_ h
  rcases Nat.lt_or_ge 16 k with e | e
  · exfalso
    have h1 : 10 ^ 16 ≤ 10 ^ k := Nat.pow_le_pow_right (by omega) (by omega)
    have h2 : 1 * 10 ^ k ≤ m * 10 ^ k := Nat.mul_le_mul_right _ h0
    unfold maxW at h
    omega
  · exact e

theorem meets_in : ∀ (f k low high : Nat) (V : Nat) (a b : Int), k < f → low * 10 ^ k ≤ V → V < (high + 1) * 10 ^ k → a ≤ V → V ≤ b → meets f low high a b = true
  | 0, k, _, _, _, _, _, h, _, _, _, _ => by omega
  | f + 1, k, low, high, V, a, b, h, h1, h2, h3, h4 => by
    unfold meets
    have hp : 1 ≤ 10 ^ k := Nat.pow_pos (by omega)
    have hl : low ≤ low * 10 ^ k := Nat.le_mul_of_pos_right _ hp
    rw [if_pos (by omega)]
    by_cases ha : a ≤ (high : Int)
    · rw [if_pos ha]
    · rw [if_neg ha]
      cases k with
      | zero => simp at h1 h2; omega
      | succ k =>
        refine meets_in f k _ _ V a b (by omega) ?_ ?_ h3 h4
        · rw [Nat.pow_succ] at h1
          rw [Nat.mul_comm 10 low, Nat.mul_assoc, Nat.mul_comm 10]
          exact h1
        · rw [Nat.pow_succ, Nat.mul_comm (10 ^ k) 10, ← Nat.mul_assoc] at h2
          rw [show 10 * high + 9 + 1 = (high + 1) * 10 by omega]
          exact h2

theorem val_app_le (x : Bs) (hx : x.all dig = true) : ∀ z : Bs, z.all dig = true → val x * 10 ^ z.length ≤ val (x ++ z) ∧ val (x ++ z) < (val x + 1) * 10 ^ z.length := by
  intro z
  induction z using Dig.snocInd with
  | h0 => intro _; simp
  | h1 z b ih =>
    intro hz
    rw [Dig.all_dig_snoc, Bool.and_eq_true] at hz
    obtain ⟨i1, i2⟩ := ih hz.1
    obtain ⟨b1, b2⟩ := Dig.dig_le b hz.2
    rw [← List.append_assoc, Dig.val_snoc, List.length_append, List.length_singleton, Nat.pow_succ, ← Nat.mul_assoc, ← Nat.mul_assoc]
    omega

theorem has_in (x z : Bs) (a b : Int) (hx : x.all dig = true) (hz : z.all dig = true) (h1 : a ≤ (val (x ++ z) : Int)) (h2 : (val (x ++ z) : Int) ≤ b) (hb : b ≤ 10000000) : has x a b = true := by
  rw [has_leads x a b hx (by omega) hb]
  unfold leads
  obtain ⟨k1, k2⟩ := val_app_le x hx z hz
  have hp : 1 ≤ 10 ^ z.length := Nat.pow_pos (by omega)
  have hvx : val x ≤ val x * 10 ^ z.length := Nat.le_mul_of_pos_right _ hp
  rw [if_neg (by omega)]
  have hm : min (val x) far = val x := by unfold far; omega
  rw [hm]
  by_cases h0 : (x != []) = false ∨ val x = 0
  · rw [if_pos h0]
  · rw [if_neg h0]
    have hv0 : 1 ≤ val x := by
      rcases Nat.eq_zero_or_pos (val x) with e | e
      · exact absurd (Or.inr e) h0
      · exact e
    have hk : z.length < 12 := by
      rcases Nat.lt_or_ge z.length 12 with e | e
      · exact e
      · exfalso
        have h3 : 10 ^ 12 ≤ 10 ^ z.length := Nat.pow_le_pow_right (by omega) e
        have h4 : 1 * 10 ^ z.length ≤ val x * 10 ^ z.length := Nat.mul_le_mul_right _ hv0
        omega
    exact meets_in 12 z.length _ _ (val (x ++ z)) _ _ hk k1 k2 (by omega) h2

theorem may_of_good (t tt : T) (v : t.V) (vv : tt.V) (hx : Ext t tt) (hf : tt.full) (hl : tt.text.length ≤ 90000)
    (hi : (Dig.int (norm ⟨tt.neg, tt.d ++ tt.f, -(tt.f.length : Int) + tt.exv⟩)).2 = 0) : mayP t.parts = true := by
  obtain ⟨⟨y, hy⟩, hex⟩ := hx
  have hlp := len_parts tt vv
  show mayP ⟨t.d ++ t.f, t.f.length, t.ex, t.sgn, t.x⟩ = true
  unfold mayP
  dsimp only
  rcases split_mid (t.d ++ t.f) (all_app v.d v.f) with a1 | ⟨a, C, z, a1, a2⟩
  · have e : norm ⟨false, t.d ++ t.f, -(t.f.length : Int)⟩ = Dig.zero := by rw [a1]; exact norm_zeros _ _ _
    rw [e, if_pos (show Dig.zero.d = [] from rfl)]
  · have e : norm ⟨false, t.d ++ t.f, -(t.f.length : Int)⟩ = ⟨false, C, -(t.f.length : Int) + z⟩ := by rw [a1]; exact norm_mid a2 _ _ _ _
    have hp := a2.pos1
    rw [e]
    dsimp only
    -- the digits are within
    have hC : val C ≤ maxW := by
      obtain ⟨C', z', b1, b2, b3⟩ := core_more C a2 a z y (by rw [← a1, ← hy]; exact all_app vv.d vv.f)
      rw [hy, a1, b1, norm_mid b2, Dig.int, b2.norm, ← b2.norm, ← Dig.int] at hi
      obtain ⟨c1, c2⟩ := int_ok' b2 _ _ hi
      refine Nat.le_trans b3 (Nat.le_trans (Nat.le_mul_of_pos_right _ (Nat.pow_pos (by omega))) c2)
    have i0 := (int_ok a2 0).2 (by rw [Nat.pow_zero, Nat.mul_one]; exact hC)
    rw [if_neg a2.ne, if_neg (show ¬ (Dig.int ⟨false, C, 0⟩).2 ≠ 0 from fun q => q i0)]
    by_cases hn7 : t.ex = false ∨ (t.sgn = 0 ∧ t.x = [])
    · rw [if_pos hn7]
    · rw [if_neg hn7, more_eq a2 hC]
      have hte : t.ex = true := by
        cases hh : t.ex with
        | true => rfl
        | false => exact absurd (Or.inl hh) hn7
      obtain ⟨x1, x2, x3, x4, zz, x5⟩ := hex hte
      have hsx : t.sg ≠ [] ∨ t.x ≠ [] := by
        rcases Decidable.em (t.x = []) with e1 | e1
        · left
          intro e2
          refine hn7 (Or.inr ⟨?_, e1⟩)
          unfold T.sgn
          rw [e2]
          rfl
        · exact Or.inr e1
      have hsg := x4 hsx
      -- the exponent of the whole
      rw [x2, x3, a1, norm_mid a2, Dig.int, a2.norm, ← a2.norm, ← Dig.int] at hi
      obtain ⟨c1, c2⟩ := int_ok' a2 _ _ hi
      have hm := most_ge (val C) _ hp c2
      have hM := most_le (val C)
      have hxd : tt.x.all dig = true := vv.x
      have hzd : zz.all dig = true := by
        rw [x5, List.all_append, Bool.and_eq_true] at hxd
        exact hxd.2
      have hE := expo_val tt.x hxd
      have hzl : z ≤ 90000 ∧ t.f.length ≤ 90000 := by
        have h1 := congrArg List.length a1
        simp at h1
        rw [x2, x3] at hlp
        omega
      have hexv : tt.exv = if t.sg = [45] then -((min (val tt.x) far : Nat) : Int) else ((min (val tt.x) far : Nat) : Int) := by
        unfold T.exv
        rw [if_pos x1, hsg, hE]
      by_cases hs : t.sg = [45]
      · have : t.sgn = 45 := by unfold T.sgn; rw [if_pos hs]
        rw [if_pos this]
        rw [if_pos hs] at hexv
        have hfar : min (val tt.x) far = val tt.x := by unfold far at hexv ⊢; omega
        rw [hfar] at hexv
        refine has_in t.x zz _ _ v.x hzd ?_ ?_ (by omega) <;> rw [← x5] <;> omega
      · have : ¬ t.sgn = 45 := by unfold T.sgn; rw [if_neg hs]; split <;> omega
        rw [if_neg this]
        rw [if_neg hs] at hexv
        have hfar : min (val tt.x) far = val tt.x := by unfold far at hexv ⊢; omega
        rw [hfar] at hexv
        refine has_in t.x zz _ _ v.x hzd ?_ ?_ (by omega) <;> rw [← x5] <;> omega

/-- where a byte is refused no text goes on that is read, whole, and within -/
theorem hopeless (n : St) (t : T) (v : t.V) (h : Tells n t) (c : UInt8) (m : Bs) (hl : (t.text ++ c :: m).length ≤ 80000) (k : Nat) (hk : push n c.toNat = .error k) : ¬ Good (t.text ++ c :: m) := by
  rintro ⟨d, hd, hi⟩
  have hl1 : t.text.length ≤ 80000 := by rw [List.length_append] at hl; omega
  have hsim := sim n t v h c (by omega)
  have hr : rpush t.text c = .error k := by
    rcases hsim with ⟨k', h1, h2⟩ | ⟨n', t', h1, h2, _⟩
    · rw [hk] at h1
      injection h1 with h1
      rw [h1]
      exact h2
    · rw [hk] at h1; cases h1
  cases hg : t.go (c :: m) with
  | none => rw [go_none _ t v hg] at hd; cases hd
  | some tt =>
    unfold T.go at hg
    split at hg
    · cases hg
    · rename_i p hp
      obtain ⟨s1, s2, s3⟩ := step_ok t v c p hp
      obtain ⟨g1, g2, g3⟩ := go_some m _ tt s1 hg
      have htx : tt.text = t.text ++ c :: m := by rw [g2, s2]; simp
      have hfull : tt.full := by
        rcases Classical.em tt.full with e | e
        · exact e
        · rw [← htx, read_not tt g1 e] at hd; cases hd
      rw [← htx, read_text tt g1 hfull] at hd
      injection hd with hd
      have hmay := may_of_good (t.step c p) tt s1 g1 g3 hfull (by rw [htx]; omega) (by rw [hd]; exact hi)
      rw [rpush_eq, ← s2, cut_text _ s1] at hr
      dsimp only at hr
      rw [if_pos hmay] at hr
      cases hr
end Go.Proofs.YthdncmagfgoboaaGreatDoor.Num
