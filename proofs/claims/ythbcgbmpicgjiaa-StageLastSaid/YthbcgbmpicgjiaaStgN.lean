/- Tables of so many copies of one block: how many unlike blocks. -/
import Derived.Test.YthbcgbmpicgjiaaStgM
namespace Go.Proofs.Ythbcgbmpicgjiaa
namespace Stg
def row0 (p q : Int → Int) (v : List Int) : List (Int × Int) := v.map fun x => (p x, q x)
def row (p q : Int → Int) (v : List Int) (i : Nat) : List (Int × Int) := v.map fun x => (256 * (7 * (i : Int) + 3) + p x, q x)
def rows (p q : Int → Int) (v : List Int) : Nat → List (Int × Int)
  | 0 => []
  | i + 1 => rows p q v i ++ row p q v i
theorem row_snoc (p q : Int → Int) (v : List Int) (x : Int) (i : Nat) : row p q (v ++ [x]) i = row p q v i ++ [(256 * (7 * (i : Int) + 3) + p x, q x)] := by simp [row]
theorem row_len (p q : Int → Int) (v : List Int) (i : Nat) : (row p q v i).length = v.length := by simp [row]
theorem rows_len (p q : Int → Int) (v : List Int) : ∀ i, (rows p q v i).length = i * v.length
  | 0 => by simp [rows]
  | i + 1 => by rw [rows, List.length_append, rows_len p q v i, row_len, Nat.succ_mul]
theorem lst_shift (p q : Int → Int) (v : List Int) (i : Nat) (j : Int) : lst (row p q v i) (256 * (7 * (i : Int) + 3) + j) = lst (row0 p q v) j := by
  unfold lst row row0
  rw [List.foldl_map, List.foldl_map]
  congr 1
  funext a x
  by_cases h : p x = j
  · rw [if_pos (by rw [h]), if_pos h]
  · rw [if_neg (by omega), if_neg h]
theorem lst_rows (p q : Int → Int) (v : List Int) (hp : ∀ x, 0 ≤ p x ∧ p x < 256) (n j : Nat) (hj : j < 256) : ∀ k, (lst (rows p q v k) (256 * (n : Int) + (j : Int)) = lst (row0 p q v) j ∧ ∃ i, i < k ∧ n = 7 * i + 3) ∨ (lst (rows p q v k) (256 * (n : Int) + (j : Int)) = 0 ∧ ∀ i, i < k → n ≠ 7 * i + 3)
  | 0 => .inr ⟨rfl, fun i hi => absurd hi (by omega)⟩
  | k + 1 => by
    have ih := lst_rows p q v hp n j hj k
    by_cases hn : n = 7 * k + 3
    · refine .inl ⟨?_, k, by omega, hn⟩
      rw [rows]
      have hc : 256 * (n : Int) + (j : Int) = 256 * (7 * (k : Int) + 3) + (j : Int) := by omega
      by_cases h : ∃ e ∈ row p q v k, e.1 = 256 * (n : Int) + (j : Int)
      · rw [lst_app_some _ _ _ h, hc, lst_shift]
      · have h0 : ∀ e ∈ row p q v k, e.1 ≠ 256 * (n : Int) + (j : Int) := fun e he x => h ⟨e, he, x⟩
        rw [lst_app_none _ _ _ h0]
        rcases ih with ⟨_, i, hi, hni⟩ | ⟨ih, _⟩
        · omega
        · rw [ih, lst_none]
          intro e he x
          unfold row0 at he
          rw [List.mem_map] at he
          obtain ⟨y, hy, rfl⟩ := he
          exact h0 (256 * (7 * (k : Int) + 3) + p y, q y) (by unfold row; rw [List.mem_map]; exact ⟨y, hy, rfl⟩) (by dsimp only at x ⊢; omega)
    · have h0 : ∀ e ∈ row p q v k, e.1 ≠ 256 * (n : Int) + (j : Int) := fun e he x => by
        unfold row at he
        rw [List.mem_map] at he
        obtain ⟨y, hy, rfl⟩ := he
        have := hp y
        dsimp only at x
        omega
      rw [rows, lst_app_none _ _ _ h0]
      rcases ih with ⟨h1, i, hi, hni⟩ | ⟨h1, h2⟩
      · exact .inl ⟨h1, i, by omega, hni⟩
      · exact .inr ⟨h1, fun i hi => by
          by_cases q : i = k
          · subst q; exact hn
          · exact h2 i (by omega)⟩
theorem blk_rows_in (p q : Int → Int) (v : List Int) (hp : ∀ x, 0 ≤ p x ∧ p x < 256) (i k : Nat) (hi : i < k) : blk (rows p q v k) (7 * i + 3) = blk (row0 p q v) 0 :=
  blk_ext fun j hj => by
    rcases lst_rows p q v hp (7 * i + 3) j hj k with ⟨h, _⟩ | ⟨_, h⟩
    · rw [h]; congr 1; omega
    · exact absurd rfl (h i hi)
theorem blk_rows_out (p q : Int → Int) (v : List Int) (hp : ∀ x, 0 ≤ p x ∧ p x < 256) (n k : Nat) (hn : ∀ i, i < k → n ≠ 7 * i + 3) : blk (rows p q v k) n = zero := by
  rw [← blk_nil n]
  exact blk_ext fun j hj => by
    rcases lst_rows p q v hp n j hj k with ⟨_, i, hi, hni⟩ | ⟨h, _⟩
    · exact absurd hni (hn i hi)
    · rw [h, lst_nil]
theorem row0_nil (p q : Int → Int) : blk (row0 p q []) 0 = zero := blk_nil 0
theorem row0_ne (p q : Int → Int) (v : List Int) (hp : ∀ x, 0 ≤ p x ∧ p x < 256) (hq : ∀ x, 1 ≤ q x ∧ q x ≤ 9) (hv : v ≠ []) : blk (row0 p q v) 0 ≠ zero := by
  intro h
  rw [← blk_nil 0] at h
  obtain ⟨x, hx⟩ := List.exists_mem_of_ne_nil v hv
  have hpx := hp x
  have := blk_inj h (p x).toNat (by omega)
  rw [lst_nil, show 256 * ((0 : Nat) : Int) + (((p x).toNat : Nat) : Int) = p x by omega] at this
  obtain ⟨e, he, _, h2⟩ := lst_mem (row0 p q v) (p x) ⟨(p x, q x), by unfold row0; rw [List.mem_map]; exact ⟨x, hx, rfl⟩, rfl⟩
  unfold row0 at he
  rw [List.mem_map] at he
  obtain ⟨y, _, rfl⟩ := he
  have := hq y
  dsimp only at h2
  omega
theorem row0_le (p q : Int → Int) (v : List Int) (hq : ∀ x, 1 ≤ q x ∧ q x ≤ 9) (c : Int) : lst (row0 p q v) c ≤ 9 := by
  by_cases h : ∃ e ∈ row0 p q v, e.1 = c
  · obtain ⟨e, he, _, h2⟩ := lst_mem _ _ h
    unfold row0 at he
    rw [List.mem_map] at he
    obtain ⟨y, _, rfl⟩ := he
    have := hq y
    rw [h2]
    dsimp only
    omega
  · rw [lst_none _ _ fun e he x => h ⟨e, he, x⟩]; omega
theorem kinds_rows (p q : Int → Int) (v : List Int) (hp : ∀ x, 0 ≤ p x ∧ p x < 256) (hq : ∀ x, 1 ≤ q x ∧ q x ≤ 9) (k : Nat) (hk : 1 ≤ k) (hk2 : k ≤ 40) : kinds (rows p q v k) = if v = [] then 1 else 2 := by
  by_cases hv : v = []
  · subst hv
    rw [if_pos rfl]
    refine kinds_of _ [zero] (by simp) fun b => ?_
    simp only [List.mem_singleton]
    constructor
    · rintro rfl
      exact ⟨0, by omega, blk_rows_out p q [] hp 0 k fun i hi => by omega⟩
    · rintro ⟨n, _, rfl⟩
      by_cases h : ∃ i, i < k ∧ n = 7 * i + 3
      · obtain ⟨i, hi, rfl⟩ := h
        rw [blk_rows_in p q [] hp i k hi, row0_nil]
      · exact blk_rows_out p q [] hp n k fun i hi x => h ⟨i, hi, x⟩
  · rw [if_neg hv]
    have hne := row0_ne p q v hp hq hv
    refine kinds_of _ [zero, blk (row0 p q v) 0] (by simp [Ne.symm hne]) fun b => ?_
    simp only [List.mem_cons, List.not_mem_nil, or_false]
    constructor
    · rintro (rfl | rfl)
      · exact ⟨0, by omega, blk_rows_out p q v hp 0 k fun i hi => by omega⟩
      · exact ⟨3, by omega, blk_rows_in p q v hp 0 k (by omega)⟩
    · rintro ⟨n, _, rfl⟩
      by_cases h : ∃ i, i < k ∧ n = 7 * i + 3
      · obtain ⟨i, hi, rfl⟩ := h
        exact .inr (blk_rows_in p q v hp i k hi)
      · exact .inl (blk_rows_out p q v hp n k fun i hi x => h ⟨i, hi, x⟩)
theorem kinds_rows_other (p q : Int → Int) (v : List Int) (hp : ∀ x, 0 ≤ p x ∧ p x < 256) (hq : ∀ x, 1 ≤ q x ∧ q x ≤ 9) (k : Nat) (hk : 1 ≤ k) (hk2 : k ≤ 40) : kinds (rows p q v k ++ [(1114111, 77)]) = if v = [] then 2 else 3 := by
  have hlast : blk (rows p q v k ++ [(1114111, 77)]) 4351 = zero.set 255 77 := by
    rw [blk_snoc_same _ _ 4351 255 (by omega) (by rfl), blk_rows_out p q v hp 4351 k fun i hi => by omega]
  have hoth : ∀ n, n ≠ 4351 → blk (rows p q v k ++ [(1114111, 77)]) n = blk (rows p q v k) n := fun n hn => blk_snoc_other _ _ 4351 n 255 (by omega) (by rfl) hn
  have hg : (zero.set 255 77)[255]? = some 77 := by
    rw [List.getElem?_set_self (by rw [zero_length]; omega)]
  have hz : zero.set 255 77 ≠ zero := fun x => by
    rw [x] at hg
    unfold zero at hg
    rw [List.getElem?_replicate, if_pos (by omega)] at hg
    simp at hg
  have hr : zero.set 255 77 ≠ blk (row0 p q v) 0 := fun x => by
    rw [x, blk_get _ _ _ (by omega)] at hg
    have := row0_le p q v hq (256 * ((0 : Nat) : Int) + ((255 : Nat) : Int))
    have hg2 := Option.some.inj hg
    omega
  by_cases hv : v = []
  · subst hv
    rw [if_pos rfl]
    refine kinds_of _ [zero, zero.set 255 77] (by simp [Ne.symm hz]) fun b => ?_
    simp only [List.mem_cons, List.not_mem_nil, or_false]
    constructor
    · rintro (rfl | rfl)
      · exact ⟨0, by omega, by rw [hoth 0 (by omega)]; exact blk_rows_out p q [] hp 0 k fun i hi => by omega⟩
      · exact ⟨4351, by omega, hlast⟩
    · rintro ⟨n, _, rfl⟩
      by_cases hn : n = 4351
      · subst hn; exact .inr hlast
      · rw [hoth n hn]
        left
        by_cases h : ∃ i, i < k ∧ n = 7 * i + 3
        · obtain ⟨i, hi, rfl⟩ := h
          rw [blk_rows_in p q [] hp i k hi, row0_nil]
        · exact blk_rows_out p q [] hp n k fun i hi x => h ⟨i, hi, x⟩
  · rw [if_neg hv]
    have hne := row0_ne p q v hp hq hv
    refine kinds_of _ [zero, blk (row0 p q v) 0, zero.set 255 77] (by simp [Ne.symm hne, Ne.symm hz, Ne.symm hr]) fun b => ?_
    simp only [List.mem_cons, List.not_mem_nil, or_false]
    constructor
    · rintro (rfl | rfl | rfl)
      · exact ⟨0, by omega, by rw [hoth 0 (by omega)]; exact blk_rows_out p q v hp 0 k fun i hi => by omega⟩
      · exact ⟨3, by omega, by rw [hoth 3 (by omega)]; exact blk_rows_in p q v hp 0 k (by omega)⟩
      · exact ⟨4351, by omega, hlast⟩
    · rintro ⟨n, _, rfl⟩
      by_cases hn : n = 4351
      · subst hn; exact .inr (.inr hlast)
      · rw [hoth n hn]
        by_cases h : ∃ i, i < k ∧ n = 7 * i + 3
        · obtain ⟨i, hi, rfl⟩ := h
          exact .inr (.inl (blk_rows_in p q v hp i k hi))
        · exact .inl (blk_rows_out p q v hp n k fun i hi x => h ⟨i, hi, x⟩)
end Stg
end Go.Proofs.Ythbcgbmpicgjiaa
