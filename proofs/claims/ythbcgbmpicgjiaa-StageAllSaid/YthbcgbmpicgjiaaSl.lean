/- Slices that the calls themselves own: what they hold, which block they lie in; append. -/
import Derived.Test.YthbcgbmpicgjiaaBase
import Derived.Laws.AppendOwnNone
namespace Go.Proofs.Ythbcgbmpicgjiaa
open Go.RowKit
set_option linter.unusedVariables false
set_option linter.unusedSimpArgs false

/-- a fact kept from the walk, from 'contradiction' and from 'simp': a structure is looked into by neither. -/
structure Box (p : Prop) : Prop where
  out : p

/-- a slice value v of n elements (size cells each, of type E) that owns its cells xs, in block g (none: nil). -/
def SlAt (w : World) (E : TypeId) (size : Nat) (v : Value) (n : Nat) (xs : List Value) (g : Option Nat) : Prop := w.ownsRow 0 E size v n xs ∧ v.ownBlock = g

structure SliceT (P : Program) (T E : TypeId) (z : Value) (size bytes : Nat) : Prop where
  under : P.underlying T = some (.slice E)
  cells : z.cells.size = size
  pos : 0 < size
  bpos : 0 < bytes
  info : ∃ i, P.info? E = some i ∧ i.zero = some z ∧ i.size = size ∧ i.bytes = bytes

/-- a slice value that is appended: m elements, their cells are news. -/
def SrcAt (w : World) (size : Nat) (v : Value) (m : Nat) (news : List Value) : Prop :=
  news.length = m * size ∧ (∀ u ∈ news, u.oneCell' = true) ∧
    ((v = .slice none 0 0 ∧ m = 0) ∨ ∃ ad c, v = .slice (some ad) m c ∧ ∀ j u, news[j]? = some u → w.cell? (ad.add j) = some u)

/-- the block of g' is that of g, or new in w. -/
def NewOr (w : World) (g g' : Option Nat) : Prop := g' = g ∨ ∃ k, g' = some k ∧ w.heap.size ≤ k

theorem SlAt.nil (w : World) (E : TypeId) (size : Nat) : SlAt w E size (.slice none 0 0) 0 [] none := ⟨World.ownsRow_nil w 0 E size, rfl⟩
theorem SlAt.len {w : World} {E : TypeId} {size : Nat} {v : Value} {n : Nat} {xs : List Value} {g : Option Nat} (h : SlAt w E size v n xs g) : xs.length = n * size := h.1.1
theorem SlAt.lt {w : World} {E : TypeId} {size : Nat} {v : Value} {n : Nat} {xs : List Value} {g : Option Nat} (h : SlAt w E size v n xs g) {k : Nat} (hk : g = some k) : k < w.heap.size :=
  (h.1.lt k (h.2.trans hk)).2
theorem SlAt.keep {w w' : World} {F : List Nat} {E : TypeId} {size : Nat} {v : Value} {n : Nat} {xs : List Value} {g : Option Nat} (h : SlAt w E size v n xs g) (ht : Touch F w w') (hg : ∀ k, g = some k → k ∉ F) : SlAt w' E size v n xs g := by
  obtain ⟨⟨h1, h2⟩, hb⟩ := h
  refine ⟨⟨h1, ?_⟩, hb⟩
  rcases h2 with hn | ⟨k, cap, cur, rfl, hk, hh, rest⟩
  · exact .inl hn
  · exact .inr ⟨k, cap, cur, rfl, hk, ht.keep hh (hg k (by simpa [Value.ownBlock] using hb.symm)), rest⟩
/-- the value's shape. -/
theorem SlAt.shape {w : World} {E : TypeId} {size : Nat} {v : Value} {n : Nat} {xs : List Value} {g : Option Nat} (h : SlAt w E size v n xs g) :
    (v = .slice none 0 0 ∧ n = 0 ∧ xs = [] ∧ g = none) ∨
    ∃ k cap cur, v = .slice (some ⟨k, 0, none⟩) n cap ∧ g = some k ∧ w.heap[k]? = some (.cells cur E (0, 0)) ∧ n ≤ cap ∧ cap ≤ 9223372036854775807 ∧ cur.size = cap * size ∧ cur.toList.take (n * size) = xs := by
  obtain ⟨⟨h1, h2⟩, hb⟩ := h
  rcases h2 with ⟨rfl, rfl⟩ | ⟨k, cap, cur, rfl, hk, hh, h3, h4, h5, h6⟩
  · exact .inl ⟨rfl, rfl, List.eq_nil_of_length_eq_zero (by simpa using h1), by simpa [Value.ownBlock] using hb.symm⟩
  · exact .inr ⟨k, cap, cur, rfl, by simpa [Value.ownBlock] using hb.symm, hh, h3, by unfold maxLen at h4; omega, h5, h6⟩
theorem SlAt.form {w : World} {E : TypeId} {size : Nat} {v : Value} {n : Nat} {xs : List Value} {g : Option Nat} (h : SlAt w E size v n xs g) :
    ∃ a cap, v = .slice a n cap ∧ n ≤ cap ∧ cap ≤ 9223372036854775807 ∧ (0 < n → ∃ k, g = some k ∧ a = some ⟨k, 0, none⟩) := by
  rcases h.shape with ⟨rfl, rfl, rfl, _⟩ | ⟨k, cap, cur, rfl, rfl, _, h3, h4, _⟩
  · exact ⟨none, 0, rfl, Nat.le_refl _, by omega, fun h => absurd h (by omega)⟩
  · exact ⟨_, cap, rfl, h3, h4, fun _ => ⟨k, rfl, rfl⟩⟩
/-- the first n' elements of it. -/
theorem SlAt.cut {w : World} {E : TypeId} {k n cap size : Nat} {xs : List Value} (h : SlAt w E size (.slice (some ⟨k, 0, none⟩) n cap) n xs (some k)) {n' : Nat} (hn : n' ≤ n) :
    SlAt w E size (.slice (some ⟨k, 0, none⟩) n' cap) n' (xs.take (n' * size)) (some k) := by
  obtain ⟨⟨h1, h2⟩, hb⟩ := h
  rcases h2 with ⟨hv, _⟩ | ⟨k', cap', cur, hv, hk, hh, h3, h4, h5, h6⟩
  · injection hv with e1 e2 e3
    cases e1
  · injection hv with e1 e2 e3
    injection e1 with e1
    injection e1 with e1
    subst e1; subst e3
    have hle : n' * size ≤ n * size := Nat.mul_le_mul_right _ hn
    refine ⟨⟨by rw [List.length_take, h1]; omega, .inr ⟨_, _, cur, rfl, hk, hh, by omega, h4, h5, ?_⟩⟩, rfl⟩
    rw [← h6, List.take_take]
    congr 1
    omega
theorem SlAt.cell {w : World} {E : TypeId} {size : Nat} {v : Value} {n : Nat} {xs : List Value} {g : Option Nat} (h : SlAt w E size v n xs g) {k : Nat} (hk : g = some k) {j : Nat} {u : Value} (hu : xs[j]? = some u) : w.cell? ⟨k, j, none⟩ = some u := by
  have := h.1.cells (h.2.trans hk) j u hu
  unfold Addr.add at this
  split at this
  · subst_vars; exact this
  · simpa using this
theorem SlAt.src {w : World} {E : TypeId} {size : Nat} {v : Value} {n : Nat} {xs : List Value} {g : Option Nat} (h : SlAt w E size v n xs g) (h1 : ∀ u ∈ xs, u.oneCell' = true) : SrcAt w size v n xs := by
  refine ⟨h.len, h1, ?_⟩
  rcases h.shape with ⟨rfl, rfl, rfl, _⟩ | ⟨k, cap, cur, rfl, rfl, _⟩
  · exact .inl ⟨rfl, rfl⟩
  · refine .inr ⟨_, _, rfl, fun j u hu => ?_⟩
    have := h.cell rfl hu
    unfold Addr.add
    split
    · subst_vars; exact this
    · simpa using this
theorem slAt_new {w : World} {E : TypeId} {c : Array Value} {m size : Nat} (hl : c.size = m * size) (hm : m ≤ 9223372036854775807) :
    SlAt (w.alloc (.cells c E)) E size (.slice (some ⟨w.heap.size, 0, none⟩) m m) m c.toList (some w.heap.size) := by
  refine ⟨⟨by simpa using hl, .inr ⟨_, m, c, rfl, Nat.zero_le _, alloc_new _ _, Nat.le_refl _, by unfold maxLen; omega, hl, ?_⟩⟩, rfl⟩
  rw [← hl, ← Array.length_toList, List.take_length]
theorem srcAt_new {w : World} {E : TypeId} {c : Array Value} {m k size : Nat} (hl : c.size = m * size) (h1 : ∀ u ∈ c.toList, u.oneCell' = true) :
    SrcAt (w.alloc (.cells c E)) size (.slice (some ⟨w.heap.size, 0, none⟩) m k) m c.toList := by
  refine ⟨by simpa using hl, h1, .inr ⟨_, _, rfl, fun j u hu => ?_⟩⟩
  have hu' : c[j]? = some u := by simpa using hu
  have := cell_at (alloc_new w (.cells c E)) j
  rw [hu'] at this
  unfold Addr.add
  split
  · subst_vars; exact this
  · simpa using this
theorem srcAt_one {w : World} {T : TypeId} {v : Value} {c : Nat} (h1 : v.oneCell' = true) : SrcAt (w.alloc (.cells #[v] T)) 1 (.slice (some ⟨w.heap.size, 0, none⟩) 1 c) 1 [v] := by
  refine ⟨rfl, by simpa using h1, .inr ⟨_, _, rfl, fun j u hu => ?_⟩⟩
  match j, hu with
  | 0, hu => simp at hu; subst hu; exact cell_at (alloc_new w (.cells #[v] T)) 0
theorem srcAt_block {w : World} {T : TypeId} {c : Array Value} {f : Nat × Nat} {b m k size : Nat} (hb : w.heap[b]? = some (.cells c T f)) (hl : c.size = m * size) (h1 : ∀ u ∈ c.toList, u.oneCell' = true) : SrcAt w size (.slice (some ⟨b, 0, none⟩) m k) m c.toList := by
  refine ⟨by simpa using hl, h1, .inr ⟨_, _, rfl, fun j u hu => ?_⟩⟩
  have hu' : c[j]? = some u := by simpa using hu
  unfold Addr.add
  split
  · subst_vars; simp [World.cell?, hb, hu']
  · simp [World.cell?, hb, hu']

section
variable {P : Program}
theorem run_append_sl {T ty E : TypeId} {z : Value} {size bytes : Nat} (hT : SliceT P T E z size bytes) {w : World} {v : Value} {n : Nat} {xs : List Value} {g : Option Nat} (h : SlAt w E size v n xs g)
    {s : Value} {m : Nat} {news : List Value} (hs : SrcAt w size s m news) (hb : (n + m) * bytes ≤ 140737488355328) :
    ∃ v' w' g', (Builtin.append_ #[T, T] ty #[v, s]).run P w = .ok v' w' ∧ SlAt w' E size v' (n + m) (xs ++ news) g' ∧ Touch g.toList w w' ∧ NewOr w g g' := by
  obtain ⟨hu, hz, hp, hbp, i, hi, hiz, his, hib⟩ := hT
  obtain ⟨hl, h1, hs⟩ := hs
  have hnm : n + m ≤ (n + m) * bytes := Nat.le_mul_of_pos_right _ hbp
  have h63 : n + m ≤ maxLen := by simp only [maxLen]; omega
  rcases hs with ⟨rfl, rfl⟩ | ⟨ad, c, rfl, hc⟩
  · have hn : news = [] := List.eq_nil_of_length_eq_zero (by simpa using hl)
    subst hn
    subst his
    exact ⟨v, w, g, run_append_owned_none (P := P) (w := w) 0 T ty E i i.size hu hi v n xs h.1, by simpa using h, Touch.refl _ _, .inl rfl⟩
  · have touch : ∀ w', w.grownBy w' v.ownBlock → Touch g.toList w w' := fun w' hg => ⟨hg.os, hg.tape, hg.output, hg.size, fun k hk hf => hg.block k hk (by rw [h.2]; rintro rfl; simp at hf)⟩
    rcases h.shape with ⟨rfl, rfl, rfl, rfl⟩ | ⟨k, cap, cur, rfl, rfl, hk, hle, hcm, hcs, htk⟩
    · obtain ⟨v', w', hr, ho, hg, _⟩ := run_append_own (P := P) w w.heap.size T ty E i z size bytes hu hi hiz his hib hz hp (.slice none 0 0) 0 [] (World.ownsRow_nil w _ E size) ad m c news hl hc h1 h63 hb (Nat.le_refl _)
      refine ⟨v', w', v'.ownBlock, hr, ⟨⟨ho.1, ?_⟩, rfl⟩, touch w' hg, ?_⟩
      · rcases ho.2 with hn | ⟨k, cap, cur, hv, _, rest⟩
        · exact .inl hn
        · exact .inr ⟨k, cap, cur, hv, Nat.zero_le _, rest⟩
      · cases hv : v'.ownBlock with
        | none => exact .inl rfl
        | some k => exact .inr ⟨k, rfl, (ho.lt k hv).1⟩
    · obtain ⟨v', w', hr, ho, hg, _⟩ := run_append_own (P := P) w 0 T ty E i z size bytes hu hi hiz his hib hz hp _ n xs h.1 ad m c news hl hc h1 h63 hb (Nat.zero_le _)
      refine ⟨v', w', v'.ownBlock, hr, ⟨ho, rfl⟩, touch w' hg, ?_⟩
      by_cases hroom : n + m ≤ cap
      · have hfit : n * i.size + news.length ≤ cur.size := by rw [hl, hcs, his, ← Nat.add_mul]; exact Nat.mul_le_mul_right _ hroom
        have hr' := run_append_room (P := P) w T ty E i hu hi k n cap cur hk ad m c news (by rw [his]; exact hl) hc h1 hroom hfit
        rw [hr] at hr'
        injection hr' with e1 e2
        rw [e1]
        exact .inl rfl
      · have hr' := run_append_grow (P := P) w T ty E i z hu hi hiz ⟨k, 0, none⟩ n cap xs (by rw [his]; exact h.len) (h.1.cells (g := k) rfl) ad m c news (by rw [his]; exact hl) hc (by omega) (by unfold maxLen at h63; omega) (growslice_fits (by omega) (by rw [hib]; exact hb))
        rw [hr] at hr'
        injection hr' with e1 e2
        rw [e1]
        exact .inr ⟨_, rfl, Nat.le_refl _⟩

theorem wp_append_sl {T E : TypeId} {z : Value} {size bytes : Nat} (hT : SliceT P T E z size bytes) {w : World} {o : Oper} {a : Act} {K : Act → World → Prop} {Q : Exit → Act → World → Prop} (s x : Operand)
    (ho : o.op = .call { callee := .builtin .append, args := #[s, x], argTypes := #[T, T] })
    {v : Value} {n : Nat} {xs : List Value} {g : Option Nat} (hs : a.eval s = v) (h : SlAt w E size v n xs g)
    {sv : Value} {m : Nat} {news : List Value} (hx : a.eval x = sv) (hsrc : SrcAt w size sv m news) (hb : (n + m) * bytes ≤ 140737488355328)
    (hk : ∀ ad' c' w' g', SlAt w' E size (.slice ad' (n + m) c') (n + m) (xs ++ news) g' → Touch g.toList w w' → NewOr w g g' → K (a.put o.dst (.slice ad' (n + m) c')) w') : o.wp P a w K Q := by
  obtain ⟨v', w', g', hr, h2, h3, h4⟩ := run_append_sl (ty := o.type) hT h hsrc hb
  obtain ⟨ad', c', rfl, _⟩ := h2.form
  unfold Oper.wp execOp
  simp only [ho, resolve, invoke, builtin, Sem.run_bind, Sem.run_pure, Result.andThen_ok, List.map_toArray, List.map_cons, List.map_nil, hs, hx, hr]
  exact hk ad' c' w' g' h2 h3 h4

theorem step_append_sl {T E : TypeId} {z : Value} {size bytes : Nat} (hT : SliceT P T E z size bytes) {ops : Array Oper} {w : World} {o : Oper} {a : Act} {K : Act → World → Prop} {Q : Exit → Act → World → Prop} {X : Prop} (hgd : o.guard = none) (s x : Operand)
    (ho : o.op = .call { callee := .builtin .append, args := #[s, x], argTypes := #[T, T] })
    {v : Value} {n : Nat} {xs : List Value} {g : Option Nat} (hs : a.eval s = v) (h : SlAt w E size v n xs g)
    {sv : Value} {m : Nat} {news : List Value} (hx : a.eval x = sv) (hsrc : SrcAt w size sv m news) (hb : (n + m) * bytes ≤ 140737488355328)
    (hk : ∀ ad' c' w' g', SlAt w' E size (.slice ad' (n + m) c') (n + m) (xs ++ news) g' → Touch g.toList w w' → NewOr w g g' → K (a.put o.dst (.slice ad' (n + m) c')) w') :
    if Region.wanted o (yielded ops a.tmps) = true then Oper.wp P o a w K Q else X := by
  rw [if_pos (by simp [Region.wanted, hgd])]
  exact wp_append_sl hT s x ho hs h hx hsrc hb hk

theorem wpList_append_sl {T E : TypeId} {z : Value} {size bytes : Nat} (hT : SliceT P T E z size bytes) {w : World} {ops : Array Oper} {rest : List Oper} {o : Oper} {a : Act} {Q : Exit → Act → World → Prop} (hgd : o.guard = none) (s x : Operand)
    (ho : o.op = .call { callee := .builtin .append, args := #[s, x], argTypes := #[T, T] })
    {v : Value} {n : Nat} {xs : List Value} {g : Option Nat} (hs : a.eval s = v) (h : SlAt w E size v n xs g)
    {sv : Value} {m : Nat} {news : List Value} (hx : a.eval x = sv) (hsrc : SrcAt w size sv m news) (hb : (n + m) * bytes ≤ 140737488355328)
    (hk : ∀ ad' c' w' g', SlAt w' E size (.slice ad' (n + m) c') (n + m) (xs ++ news) g' → Touch g.toList w w' → NewOr w g g' → wpList P ops Q rest (a.put o.dst (.slice ad' (n + m) c')) w') : wpList P ops Q (o :: rest) a w :=
  wpList_plain hgd fun _ hK => wp_append_sl hT s x ho hs h hx hsrc hb fun ad' c' w' g' h2 h3 h4 => hK _ _ (hk ad' c' w' g' h2 h3 h4)
end
end Go.Proofs.Ythbcgbmpicgjiaa
