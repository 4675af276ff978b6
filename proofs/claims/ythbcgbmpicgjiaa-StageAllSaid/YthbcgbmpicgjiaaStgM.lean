/- Tables, in plain Lean: the last entry of a place; blocks of 256 places; unlike blocks. -/
namespace Go.Proofs.Ythbcgbmpicgjiaa
namespace Stg
theorem snoc_rec {α : Type} {motive : List α → Prop} (nil : motive []) (snoc : ∀ l x, motive l → motive (l ++ [x])) (l : List α) : motive l := by
  rw [← List.reverse_reverse l]
  generalize l.reverse = r
  induction r with
  | nil => exact nil
  | cons x r ih => rw [List.reverse_cons]; exact snoc _ _ ih
/-- what the entries have at c: the last one counts, 0 where there is none -/
def lst (l : List (Int × Int)) (c : Int) : Int := l.foldl (fun a e => if e.1 = c then e.2 else a) 0
theorem lst_nil (c : Int) : lst [] c = 0 := rfl
theorem lst_snoc (l : List (Int × Int)) (e : Int × Int) (c : Int) : lst (l ++ [e]) c = if e.1 = c then e.2 else lst l c := by simp [lst]
theorem fold_none (m : List (Int × Int)) (c : Int) (h : ∀ e ∈ m, e.1 ≠ c) (a : Int) : m.foldl (fun a e => if e.1 = c then e.2 else a) a = a := by
  induction m generalizing a with
  | nil => rfl
  | cons e m ih =>
    rw [List.foldl_cons, if_neg (h e (by simp))]
    exact ih (fun x hx => h x (by simp [hx])) a
theorem fold_some (m : List (Int × Int)) (c : Int) (h : ∃ e ∈ m, e.1 = c) (a b : Int) : m.foldl (fun a e => if e.1 = c then e.2 else a) a = m.foldl (fun a e => if e.1 = c then e.2 else a) b := by
  induction m generalizing a b with
  | nil => obtain ⟨e, he, _⟩ := h; simp at he
  | cons e m ih =>
    rw [List.foldl_cons, List.foldl_cons]
    by_cases q : e.1 = c
    · rw [if_pos q, if_pos q]
    · rw [if_neg q, if_neg q]
      refine ih ?_ a b
      obtain ⟨x, hx, hc⟩ := h
      simp only [List.mem_cons] at hx
      rcases hx with rfl | hx
      · exact absurd hc q
      · exact ⟨x, hx, hc⟩
theorem lst_app_none (l m : List (Int × Int)) (c : Int) (h : ∀ e ∈ m, e.1 ≠ c) : lst (l ++ m) c = lst l c := by
  unfold lst
  rw [List.foldl_append, fold_none m c h]
theorem lst_app_some (l m : List (Int × Int)) (c : Int) (h : ∃ e ∈ m, e.1 = c) : lst (l ++ m) c = lst m c := by
  unfold lst
  rw [List.foldl_append]
  exact fold_some m c h _ _
theorem lst_none (l : List (Int × Int)) (c : Int) (h : ∀ e ∈ l, e.1 ≠ c) : lst l c = 0 := fold_none l c h 0
theorem lst_mem (l : List (Int × Int)) (c : Int) (h : ∃ e ∈ l, e.1 = c) : ∃ e ∈ l, e.1 = c ∧ lst l c = e.2 := by
  induction l using snoc_rec with
  | nil => obtain ⟨e, he, _⟩ := h; simp at he
  | snoc l x ih =>
    rw [lst_snoc]
    by_cases q : x.1 = c
    · exact ⟨x, by simp, q, by rw [if_pos q]⟩
    · rw [if_neg q]
      have : ∃ e ∈ l, e.1 = c := by
        obtain ⟨e, he, hc⟩ := h
        simp only [List.mem_append, List.mem_singleton] at he
        rcases he with he | rfl
        · exact ⟨e, he, hc⟩
        · exact absurd hc q
      obtain ⟨e, he, h1, h2⟩ := ih this
      exact ⟨e, by simp [he], h1, h2⟩
/-- what Get tells -/
def tget (l : List (Int × Int)) (c : Int) : Int := if 0 ≤ c ∧ c ≤ 1114111 then lst l c else 0

/-- the n-th block -/
def blk (l : List (Int × Int)) (n : Nat) : List Int := (List.range 256).map fun j : Nat => lst l (256 * (n : Int) + (j : Int))
def zero : List Int := List.replicate 256 0
theorem zero_length : zero.length = 256 := by unfold zero; exact List.length_replicate ..
theorem blk_length (l : List (Int × Int)) (n : Nat) : (blk l n).length = 256 := by simp [blk]
theorem blk_get (l : List (Int × Int)) (n j : Nat) (hj : j < 256) : (blk l n)[j]? = some (lst l (256 * (n : Int) + (j : Int))) := by
  unfold blk
  rw [List.getElem?_map, List.getElem?_range hj]
  rfl
theorem blk_nil (n : Nat) : blk [] n = zero := by
  apply List.ext_getElem?
  intro j
  by_cases hj : j < 256
  · rw [blk_get _ _ _ hj, lst_nil]
    unfold zero
    rw [List.getElem?_replicate, if_pos hj]
  · rw [List.getElem?_eq_none (by rw [blk_length]; omega), List.getElem?_eq_none (by rw [zero_length]; omega)]
theorem blk_ext {l m : List (Int × Int)} {n k : Nat} (h : ∀ j : Nat, j < 256 → lst l (256 * (n : Int) + (j : Int)) = lst m (256 * (k : Int) + (j : Int))) : blk l n = blk m k := by
  apply List.ext_getElem?
  intro j
  by_cases hj : j < 256
  · rw [blk_get _ _ _ hj, blk_get _ _ _ hj, h j hj]
  · rw [List.getElem?_eq_none (by rw [blk_length]; omega), List.getElem?_eq_none (by rw [blk_length]; omega)]
theorem blk_inj {l m : List (Int × Int)} {n k : Nat} (h : blk l n = blk m k) (j : Nat) (hj : j < 256) : lst l (256 * (n : Int) + (j : Int)) = lst m (256 * (k : Int) + (j : Int)) := by
  have h1 := blk_get l n j hj
  rw [h, blk_get m k j hj] at h1
  exact (Option.some.inj h1).symm
theorem blk_snoc_same (l : List (Int × Int)) (e : Int × Int) (n j : Nat) (hj : j < 256) (he : e.1 = 256 * (n : Int) + (j : Int)) : blk (l ++ [e]) n = (blk l n).set j e.2 := by
  apply List.ext_getElem?
  intro i
  rw [List.getElem?_set]
  by_cases hi : i < 256
  · rw [blk_get _ _ _ hi, lst_snoc, he]
    by_cases hij : j = i
    · subst hij
      rw [if_pos rfl, if_pos rfl, if_pos (by rw [blk_length]; exact hj)]
    · rw [if_neg (by omega), if_neg hij, blk_get _ _ _ hi]
  · rw [List.getElem?_eq_none (by rw [blk_length]; omega), if_neg (by omega), List.getElem?_eq_none (by rw [blk_length]; omega)]
theorem blk_snoc_other (l : List (Int × Int)) (e : Int × Int) (n m j : Nat) (hj : j < 256) (he : e.1 = 256 * (n : Int) + (j : Int)) (hm : m ≠ n) : blk (l ++ [e]) m = blk l m :=
  blk_ext fun i hi => by rw [lst_snoc, if_neg (by omega)]
theorem blk_snoc_out (l : List (Int × Int)) (e : Int × Int) (m : Nat) (he : e.1 < 0 ∨ 1114111 < e.1) (hm : m < 4352) : blk (l ++ [e]) m = blk l m :=
  blk_ext fun i hi => by rw [lst_snoc, if_neg (by omega)]

/-- unlike ones, in the order in which they come -/
def uniq (f : Nat → List Int) : Nat → List (List Int)
  | 0 => []
  | n + 1 => if f n ∈ uniq f n then uniq f n else uniq f n ++ [f n]
theorem uniq_succ (f : Nat → List Int) (n : Nat) : uniq f (n + 1) = if f n ∈ uniq f n then uniq f n else uniq f n ++ [f n] := rfl
theorem mem_uniq (f : Nat → List Int) (b : List Int) : ∀ n, b ∈ uniq f n ↔ ∃ m, m < n ∧ f m = b
  | 0 => by simp [uniq]
  | n + 1 => by
    rw [uniq_succ]
    have ih := mem_uniq f b n
    constructor
    · intro h
      split at h
      · obtain ⟨m, hm, e⟩ := ih.1 h
        exact ⟨m, by omega, e⟩
      · simp only [List.mem_append, List.mem_singleton] at h
        rcases h with h | rfl
        · obtain ⟨m, hm, e⟩ := ih.1 h
          exact ⟨m, by omega, e⟩
        · exact ⟨n, by omega, rfl⟩
    · rintro ⟨m, hm, e⟩
      by_cases q : m = n
      · subst q; subst e
        split
        · assumption
        · simp
      · have := ih.2 ⟨m, by omega, e⟩
        split
        · exact this
        · simp [this]
theorem uniq_congr {f g : Nat → List Int} : ∀ n, (∀ m, m < n → f m = g m) → uniq f n = uniq g n
  | 0, _ => rfl
  | n + 1, h => by
    rw [uniq_succ, uniq_succ, uniq_congr n (fun m hm => h m (by omega)), h n (by omega)]
theorem uniq_nodup (f : Nat → List Int) : ∀ n, (uniq f n).Nodup
  | 0 => by simp [uniq]
  | n + 1 => by
    rw [uniq_succ]
    have ih := uniq_nodup f n
    split
    · exact ih
    · rename_i h
      rw [List.nodup_append]
      exact ⟨ih, by simp, fun a ha b hb q => by
        simp only [List.mem_singleton] at hb
        subst q; subst hb; exact h ha⟩
theorem uniq_le (f : Nat → List Int) : ∀ n, (uniq f n).length ≤ n
  | 0 => by simp [uniq]
  | n + 1 => by
    rw [uniq_succ]
    have ih := uniq_le f n
    split
    · omega
    · rw [List.length_append, List.length_singleton]; omega
theorem len_sub {α : Type} [DecidableEq α] : ∀ (l m : List α), l.Nodup → (∀ x ∈ l, x ∈ m) → l.length ≤ m.length
  | [], m, _, _ => Nat.zero_le _
  | x :: l, m, hn, hs => by
    rw [List.nodup_cons] at hn
    have hx := hs x (by simp)
    have := len_sub l (m.erase x) hn.2 fun y hy => by
      have hyx : y ≠ x := fun q => hn.1 (q ▸ hy)
      exact (List.mem_erase_of_ne hyx).2 (hs y (by simp [hy]))
    rw [List.length_erase_of_mem hx] at this
    have hp := List.length_pos_of_mem hx
    rw [List.length_cons]
    omega
theorem len_alike {α : Type} [DecidableEq α] (l m : List α) (hl : l.Nodup) (hm : m.Nodup) (h : ∀ x, x ∈ l ↔ x ∈ m) : l.length = m.length :=
  Nat.le_antisymm (len_sub l m hl fun x hx => (h x).1 hx) (len_sub m l hm fun x hx => (h x).2 hx)
/-- how many unlike blocks -/
def kinds (l : List (Int × Int)) : Nat := (uniq (blk l) 4352).length
theorem kinds_of (l : List (Int × Int)) (r : List (List Int)) (hr : r.Nodup) (h : ∀ b, b ∈ r ↔ ∃ n, n < 4352 ∧ blk l n = b) : kinds l = r.length :=
  len_alike _ _ (uniq_nodup _ _) hr fun b => by rw [mem_uniq, h]
/-- where a block stands among those that came -/
theorem idx_app {l : List (List Int)} {b : List Int} (h : b ∈ l) (x : List Int) : (l ++ [x]).idxOf b = l.idxOf b := by
  rw [List.idxOf_append, if_pos h]
theorem idx_new {l : List (List Int)} {b : List Int} (h : b ∉ l) : (l ++ [b]).idxOf b = l.length := by
  rw [List.idxOf_append, if_neg h, List.idxOf_cons_self]; simp
theorem idx_get {l : List (List Int)} {b : List Int} (h : b ∈ l) : l[l.idxOf b]? = some b := by
  have hl := List.idxOf_lt_length_of_mem h
  rw [List.getElem?_eq_getElem hl, List.getElem_idxOf hl]
theorem alike_kinds {l m : List (Int × Int)} (h : ∀ c, 0 ≤ c → c ≤ 1114111 → lst l c = lst m c) : kinds l = kinds m := by
  unfold kinds
  rw [uniq_congr 4352 fun n hn => blk_ext fun j hj => h _ (by omega) (by omega)]
end Stg
end Go.Proofs.Ythbcgbmpicgjiaa
