/- The tokens of a value by numbers, and that the machine takes them: plain. -/
import Derived.Test.YtgjddlianhejdaaGramHM
namespace Go.Proofs.Ytgjddlianhejdaa

def kAt (l : List Int) (at_ : Nat) : Int := if at_ < l.length then l.getD at_ 0 % 1073741824 else 0
/-- i rounds of the loop: what was put out, where it stands. -/
def kLoop (f : Nat → List Int × Nat) (obj : Bool) : Nat → List Int × Nat → List Int × Nat
  | 0, s => s
  | i + 1, s => ((kLoop f obj i s).1 ++ ((if 0 < i then [11] else []) ++ ((if obj then [5, 10] else []) ++ (f (kLoop f obj i s).2).1)), (f (kLoop f obj i s).2).2)
def kinds (l : List Int) : Nat → Nat → List Int × Nat
  | 0, at_ => ([1 + kAt l at_ % 7 % 5], at_ + 1)
  | d + 1, at_ =>
    if kAt l at_ % 7 < 5 ∨ l.length < at_ + 1 then ([1 + kAt l at_ % 7 % 5], at_ + 1)
    else if kAt l at_ % 7 = 6 then ((kLoop (kinds l d) true (kAt l at_ / 7 % 4).toNat ([8], at_ + 1)).1 ++ [9], (kLoop (kinds l d) true (kAt l at_ / 7 % 4).toNat ([8], at_ + 1)).2)
    else ((kLoop (kinds l d) false (kAt l at_ / 7 % 4).toNat ([6], at_ + 1)).1 ++ [7], (kLoop (kinds l d) false (kAt l at_ / 7 % 4).toNat ([6], at_ + 1)).2)

theorem kAt_bd (l : List Int) (a : Nat) : 0 ≤ kAt l a ∧ kAt l a < 1073741824 := by
  unfold kAt; split <;> omega

theorem kLoop_bd {f : Nat → List Int × Nat} {L N : Nat} (hf : ∀ a, (f a).1.length ≤ L ∧ (f a).2 ≤ a + N) (obj : Bool) (i : Nat) (s : List Int × Nat) :
    (kLoop f obj i s).1.length ≤ s.1.length + i * (3 + L) ∧ (kLoop f obj i s).2 ≤ s.2 + i * N := by
  induction i with
  | zero => simp [kLoop]
  | succ i ih =>
    have h := hf (kLoop f obj i s).2
    constructor
    · simp only [kLoop, List.length_append, Nat.succ_mul]
      have h1 : (if 0 < i then [(11 : Int)] else []).length ≤ 1 := by split <;> simp
      have h2 : (if obj = true then [(5 : Int), 10] else []).length ≤ 2 := by split <;> simp
      omega
    · simp only [kLoop, Nat.succ_mul]
      omega
theorem kinds_bd (l : List Int) (d : Nat) : ∀ a, (kinds l d a).1.length + 6 ≤ 12 * 3 ^ d ∧ (kinds l d a).2 + 1 ≤ a + 2 * 4 ^ d := by
  induction d with
  | zero => intro a; simp [kinds]
  | succ d ih =>
    intro a
    have hp : 1 ≤ 3 ^ d := Nat.pow_pos (by omega)
    have hq : 1 ≤ 4 ^ d := Nat.pow_pos (by omega)
    have e3 : 3 ^ (d + 1) = 3 * 3 ^ d := by rw [Nat.pow_succ]; omega
    have e4 : 4 ^ (d + 1) = 4 * 4 ^ d := by rw [Nat.pow_succ]; omega
    have hk := kAt_bd l a
    have hi : (kAt l a / 7 % 4).toNat ≤ 3 := by omega
    have hb : ∀ obj s, (kLoop (kinds l d) obj (kAt l a / 7 % 4).toNat s).1.length ≤ s.1.length + 3 * (3 + (12 * 3 ^ d - 6)) ∧ (kLoop (kinds l d) obj (kAt l a / 7 % 4).toNat s).2 ≤ s.2 + 3 * (2 * 4 ^ d - 1) := by
      intro obj s
      have h := kLoop_bd (f := kinds l d) (L := 12 * 3 ^ d - 6) (N := 2 * 4 ^ d - 1) (fun a => by have := ih a; omega) obj (kAt l a / 7 % 4).toNat s
      refine ⟨Nat.le_trans h.1 (Nat.add_le_add_left (Nat.mul_le_mul_right _ hi) _), Nat.le_trans h.2 (Nat.add_le_add_left (Nat.mul_le_mul_right _ hi) _)⟩
    unfold kinds
    split
    · simp; omega
    split
    · have := hb true ([8], a + 1)
      simp only [List.length_append, List.length_cons, List.length_nil] at this ⊢
      omega
    · have := hb false ([6], a + 1)
      simp only [List.length_append, List.length_cons, List.length_nil] at this ⊢
      omega
theorem kinds_bd5 (l : List Int) (d : Nat) (hd : d ≤ 5) (a : Nat) : (kinds l d a).1.length ≤ 3000 ∧ (kinds l d a).2 ≤ a + 2100 := by
  have h := kinds_bd l d a
  match d, hd with
  | 0, _ => simp at h; omega
  | 1, _ => simp at h; omega
  | 2, _ => simp at h; omega
  | 3, _ => simp at h; omega
  | 4, _ => simp at h; omega
  | 5, _ => simp at h; omega

/-- the machine takes them all, and is whole ahead of none. -/
def Gr.runs : Gr → List Int → Gr → Prop
  | G, [], H => G = H
  | G, k :: l, H => G.want ≠ 6 ∧ G.may k = true ∧ Gr.runs (G.take k) l H
theorem Gr.runs_append {l m : List Int} : ∀ {G H K : Gr}, Gr.runs G l H → Gr.runs H m K → Gr.runs G (l ++ m) K := by
  induction l with
  | nil => intro G H K h1 h2; cases h1; exact h2
  | cons k l ih => intro G H K h1 h2; exact ⟨h1.1, h1.2.1, ih h1.2.2 h2⟩

theorem kLoop_runs {f : Nat → List Int × Nat} (hf : ∀ (G : Gr) a, (G.want = 0 ∨ G.want = 1) → Gr.runs G (f a).1 (Gr.done G.op)) (G : Gr) (t : Int) (ht : t = 6 ∨ t = 8) (hG : G.want = 0 ∨ G.want = 1) (i : Nat) (a : Nat) :
    Gr.runs G (kLoop f (t == 8) i ([t], a)).1 ⟨G.op ++ [t], if i = 0 then (if t = 6 then 1 else 2) else 5⟩ := by
  induction i with
  | zero =>
    have hm : G.may t = true := by rcases hG with h | h <;> rcases ht with rfl | rfl <;> simp [Gr.may, h, valueK]
    simp only [kLoop, Gr.runs]
    refine ⟨by omega, hm, ?_⟩
    rcases ht with rfl | rfl <;> simp [Gr.take, hm]
  | succ i ih =>
    simp only [kLoop]
    refine Gr.runs_append ih ?_
    -- the comma, the name, the value
    have hval : ∀ w, w = 0 ∨ w = 1 → Gr.runs ⟨G.op ++ [t], w⟩ (f (kLoop f (t == 8) i ([t], a)).2).1 ⟨G.op ++ [t], 5⟩ := by
      intro w hw
      have := hf ⟨G.op ++ [t], w⟩ (kLoop f (t == 8) i ([t], a)).2 hw
      simpa [Gr.done] using this
    have hdone : (if i + 1 = 0 then (if t = 6 then (1 : Int) else 2) else 5) = 5 := by simp
    rw [hdone]
    by_cases hi : i = 0
    · subst hi
      simp only [Nat.lt_irrefl, if_false, if_true, List.nil_append]
      rcases ht with rfl | rfl
      · simpa using hval 1 (.inr rfl)
      · simp only [beq_self_eq_true, if_true, List.cons_append, List.nil_append, Gr.runs]
        refine ⟨by simp, by simp [Gr.may], by simp [Gr.take, Gr.may, Gr.name], by simp [Gr.take, Gr.may, Gr.name], ?_⟩
        simpa [Gr.take, Gr.may, Gr.name] using hval 0 (.inl rfl)
    · have hi' : 0 < i := by omega
      simp only [hi, hi', if_false, if_true, List.cons_append, List.nil_append, Gr.runs]
      refine ⟨by simp, by simp [Gr.may], ?_⟩
      rcases ht with rfl | rfl
      · simpa [Gr.take, Gr.may, Gr.top_append] using hval 0 (.inl rfl)
      · simp only [beq_self_eq_true, if_true, List.cons_append, List.nil_append, Gr.runs]
        refine ⟨by simp [Gr.take, Gr.may, Gr.top_append], by simp [Gr.take, Gr.may, Gr.top_append], by simp [Gr.take, Gr.may, Gr.name, Gr.top_append], by simp [Gr.take, Gr.may, Gr.name, Gr.top_append], ?_⟩
        simpa [Gr.take, Gr.may, Gr.name, Gr.top_append] using hval 0 (.inl rfl)

theorem kinds_runs (l : List Int) (d : Nat) : ∀ (G : Gr) a, (G.want = 0 ∨ G.want = 1) → Gr.runs G (kinds l d a).1 (Gr.done G.op) := by
  have leaf : ∀ (G : Gr) (k : Int), (G.want = 0 ∨ G.want = 1) → 1 ≤ k → k ≤ 5 → Gr.runs G [k] (Gr.done G.op) := by
    intro G k hG h1 h5
    have hm : G.may k = true := by rcases hG with h | h <;> simp [Gr.may, h, valueK] <;> omega
    refine ⟨by omega, hm, ?_⟩
    have hn : G.name = false := by rcases hG with h | h <;> simp [Gr.name, h]
    simp only [Gr.runs, Gr.take, hm, if_true]
    rw [if_neg (by omega), if_neg (by omega), if_neg (by omega), if_neg (by omega), if_neg (by omega), if_neg (by simp [hn])]
  induction d with
  | zero =>
    intro G a hG
    have hk := kAt_bd l a
    exact leaf G _ hG (by omega) (by omega)
  | succ d ih =>
    intro G a hG
    have hk := kAt_bd l a
    unfold kinds
    split
    · exact leaf G _ hG (by omega) (by omega)
    have close : ∀ (t e : Int) (w : Int), (t = 6 ∧ e = 7 ∧ (w = 1 ∨ w = 5)) ∨ (t = 8 ∧ e = 9 ∧ (w = 2 ∨ w = 5)) → Gr.runs ⟨G.op ++ [t], w⟩ [e] (Gr.done G.op) := by
      intro t e w h
      rcases h with ⟨rfl, rfl, h⟩ | ⟨rfl, rfl, h⟩ <;> rcases h with rfl | rfl <;>
        (refine ⟨by simp, by simp [Gr.may, Gr.top_append], ?_⟩; simp [Gr.runs, Gr.take, Gr.may, Gr.top_append])
    split
    · have h := kLoop_runs ih G 8 (.inr rfl) hG (kAt l a / 7 % 4).toNat (a + 1)
      refine Gr.runs_append h (close 8 9 _ (.inr ⟨rfl, rfl, ?_⟩))
      split <;> simp
    · have h := kLoop_runs ih G 6 (.inl rfl) hG (kAt l a / 7 % 4).toNat (a + 1)
      refine Gr.runs_append h (close 6 7 _ (.inl ⟨rfl, rfl, ?_⟩))
      split <;> simp
end Go.Proofs.Ytgjddlianhejdaa
