/- Maps that the calls own: what is at each key, and how many keys there are; rows of integers as keys. -/
import Derived.Test.YthbcgbmpicgjiaaSl
import Derived.Maps.OwnOps
import Derived.Maps.OwnSet
import Derived.WideKeyArr
namespace Go.Proofs.Ythbcgbmpicgjiaa
open Go.RowKit
open Go.Maps (Keyed)
set_option linter.unusedVariables false
set_option linter.unusedSimpArgs false

/-- block b is a map that has f x at the key x, and n keys. -/
def MapAt (P : Program) (w : World) (k : TypeId) (b : Nat) (f : Value → Option Value) (n : Nat) : Prop :=
  ∃ es clock, w.heap[b]? = some (.map es clock) ∧ es.size = n ∧ (∀ e ∈ es.toList, ∃ l, keyOf P k e.key = some l) ∧ es.toList.Pairwise (fun x y => x.key ≠ y.key) ∧
    (∀ e ∈ es.toList, f e.key = some e.val) ∧ (∀ x, (∀ e ∈ es.toList, e.key ≠ x) → f x = none)

open Classical in
noncomputable def mput (f : Value → Option Value) (x v : Value) : Value → Option Value := fun y => if y = x then some v else f y
theorem mput_same (f : Value → Option Value) (x v : Value) : mput f x v x = some v := by simp [mput]
theorem mput_other (f : Value → Option Value) (x v : Value) {y : Value} (h : y ≠ x) : mput f x v y = f y := by simp [mput, h]

theorem own_getObj {P : Program} {w : World} {r : Nat} {es : Array MapEntry} {clock : Nat} (hb : w.heap[r]? = some (.map es clock)) : (getObj r).run P w = .ok (.map es clock) w := by
  simp [getObj, Sem.run, hb]
theorem own_setObj {P : Program} {w : World} {r : Nat} {es : Array MapEntry} {clock : Nat} (o : Obj) (hb : w.heap[r]? = some (.map es clock)) : (setObj r o).run P w = .ok () { w with heap := w.heap.setIfInBounds r o } := by
  simp [setObj, Sem.run, hb]
section
variable {P : Program} {w : World} {k : TypeId} {b n : Nat} {f : Value → Option Value}
theorem MapAt.new (w : World) (k : TypeId) : MapAt P (w.alloc (.map #[] 0)) k w.heap.size (fun _ => none) 0 :=
  ⟨#[], 0, alloc_new _ _, rfl, by simp, by simp, by simp, by simp⟩
theorem MapAt.lt (h : MapAt P w k b f n) : b < w.heap.size := by
  obtain ⟨es, clock, hb, _⟩ := h
  exact (Array.getElem?_eq_some_iff.1 hb).1
theorem MapAt.keep {w' : World} {F : List Nat} (h : MapAt P w k b f n) (t : Touch F w w') (hb : b ∉ F) : MapAt P w' k b f n := by
  obtain ⟨es, clock, h1, h2⟩ := h
  exact ⟨es, clock, t.keep h1 hb, h2⟩
theorem MapAt.of_heap {w' : World} (h : MapAt P w k b f n) (e : w'.heap[b]? = w.heap[b]?) : MapAt P w' k b f n := by
  obtain ⟨es, clock, h1, h2⟩ := h
  exact ⟨es, clock, e.trans h1, h2⟩
theorem MapAt.run_lookup {t e : TypeId} {z x : Value} {lx : Lit} (h : MapAt P w k b f n) (K : Keyed P k) (ht : P.underlying t = some (.map k e)) (hz : (zeroValue e).run P w = .ok z w) (hx : keyOf P k x = some lx) (c : Bool) :
    (Instr.lookup t (.map (some b)) x c).run P w = .ok (if c then .tuple #[(f x).getD z, .bool (f x).isSome] else (f x).getD z) w := by
  obtain ⟨es, clock, hb, hn, hk, hp, h1, h2⟩ := h
  have hc := K.check w es.isEmpty hx
  rcases K.find w hx es.toList hk with ⟨hf, hne⟩ | ⟨j, e0, hf, hj, hk0⟩
  · have hfx := h2 x hne
    cases c <;> simp [Instr.lookup, Sem.run_bind, run_underlying ht, own_getObj hb, hc, hf, hfx, hz, Result.andThen]
  · have hfx := h1 e0 (List.mem_of_getElem? hj)
    rw [hk0] at hfx
    cases c <;> simp [Instr.lookup, Sem.run_bind, run_underlying ht, own_getObj hb, hc, hf, hfx, Result.andThen]
theorem MapAt.run_len {t e : TypeId} (h : MapAt P w k b f n) (ht : P.underlying t = some (.map k e)) (ty : TypeId) : (Builtin.len_ #[t] ty #[.map (some b)]).run P w = .ok (.int .i64 n) w := by
  obtain ⟨es, clock, hb, hn, _⟩ := h
  subst hn
  simp [Builtin.len_, Sem.run_bind, run_underlying ht, own_getObj hb, Result.andThen, goInt]
theorem MapAt.run_update {t e : TypeId} {x v : Value} {lx : Lit} (h : MapAt P w k b f n) (K : Keyed P k) (ht : P.underlying t = some (.map k e)) (hx : keyOf P k x = some lx) :
    ∃ w', (Instr.mapUpdate t (.map (some b)) x v).run P w = .ok () w' ∧ MapAt P w' k b (mput f x v) (if (f x).isSome then n else n + 1) ∧ Touch [b] w w' := by
  obtain ⟨es, clock, hb, hn, hk, hp, h1, h2⟩ := h
  have hc := K.check w false hx
  have tch : ∀ o, Touch [b] w { w with heap := w.heap.setIfInBounds b o } := fun o => ⟨rfl, rfl, rfl, by simp, fun i hi hne => by
    have : i ≠ b := by simpa using hne
    show (w.heap.setIfInBounds b o)[i]? = _
    rw [Array.getElem?_setIfInBounds_ne (Ne.symm this)]⟩
  have hset : ∀ o, ({ w with heap := w.heap.setIfInBounds b o } : World).heap[b]? = some o := fun o => by
    show (w.heap.setIfInBounds b o)[b]? = _
    rw [Array.getElem?_setIfInBounds_self_of_lt (Array.getElem?_eq_some_iff.1 hb).1]
  rcases K.find w hx es.toList hk with ⟨hf, hne⟩ | ⟨j, e0, hf, hj, hk0⟩
  · refine ⟨{ w with heap := w.heap.setIfInBounds b (.map (es.push { key := x, val := v, born := clock }) (clock + 1)) }, by simp [Instr.mapUpdate, Sem.run_bind, run_underlying ht, own_getObj hb, hc, hf, Result.andThen, own_setObj _ hb], ⟨_, _, hset _, ?_, ?_, ?_, ?_, ?_⟩, tch _⟩
    · rw [h2 x hne]; simp [hn]
    · intro e he
      simp only [Array.toList_push, List.mem_append, List.mem_singleton] at he
      rcases he with he | rfl
      · exact hk e he
      · exact ⟨lx, hx⟩
    · simp only [Array.toList_push]
      rw [List.pairwise_append]
      exact ⟨hp, by simp, fun a ha c hc' => by simp only [List.mem_singleton] at hc'; subst hc'; exact hne a ha⟩
    · intro e he
      simp only [Array.toList_push, List.mem_append, List.mem_singleton] at he
      rcases he with he | rfl
      · rw [mput_other _ _ _ (hne e he)]; exact h1 e he
      · exact mput_same _ _ _
    · intro y hy
      have hyx : y ≠ x := fun q => hy { key := x, val := v, born := clock } (by simp) q.symm
      rw [mput_other _ _ _ hyx]
      exact h2 y fun e he => hy e (by simp only [Array.toList_push, List.mem_append]; exact .inl he)
  · have hj' : es[j]? = some e0 := by simpa using hj
    have hst := K.stays w hx
    have hfx := h1 e0 (List.mem_of_getElem? hj)
    rw [hk0] at hfx
    have hj2 : es.toList[j]? = some e0 := hj
    have hml : (es.modify j fun e => { e with key := x, val := v }).toList = es.toList.modify j fun e => { e with key := x, val := v } := by simp
    refine ⟨{ w with heap := w.heap.setIfInBounds b (.map (es.modify j fun e => { e with key := x, val := v }) clock) }, by simp [Instr.mapUpdate, Sem.run_bind, run_underlying ht, own_getObj hb, hc, hf, Result.andThen, hj', hk0, hst, own_setObj _ hb], ⟨_, _, hset _, ?_, ?_, ?_, ?_, ?_⟩, tch _⟩
    · rw [hfx]; simp [hn]
    · intro e he
      rw [hml, List.mem_iff_getElem?] at he
      obtain ⟨i, hi⟩ := he
      rw [List.getElem?_modify] at hi
      by_cases hij : j = i
      · subst hij
        simp [hj2] at hi
        subst hi
        exact ⟨lx, hx⟩
      · simp [hij] at hi
        replace hi : es.toList[i]? = some e := by simpa using hi
        exact hk e (List.mem_of_getElem? hi)
    · rw [hml]
      have hkeys : (es.toList.modify j fun e => { e with key := x, val := v }).map (·.key) = es.toList.map (·.key) := by
        apply List.ext_getElem?
        intro i
        rw [List.getElem?_map, List.getElem?_map, List.getElem?_modify]
        by_cases hij : j = i
        · subst hij
          simp [hj2, hk0]
        · simp [hij]
      have hp' : (es.toList.map (·.key)).Pairwise (· ≠ ·) := by rw [List.pairwise_map]; exact hp
      rw [← hkeys, List.pairwise_map] at hp'
      exact hp'
    · intro e he
      rw [hml, List.mem_iff_getElem?] at he
      obtain ⟨i, hi⟩ := he
      rw [List.getElem?_modify] at hi
      by_cases hij : j = i
      · subst hij
        simp [hj2] at hi
        subst hi
        exact mput_same _ _ _
      · simp [hij] at hi
        replace hi : es.toList[i]? = some e := by simpa using hi
        have hne : e.key ≠ x := by
          intro q
          have hlt1 := (List.getElem?_eq_some_iff.1 hj2).1
          have hlt2 := (List.getElem?_eq_some_iff.1 hi).1
          have e1 := (List.getElem?_eq_some_iff.1 hj2).2
          have e2 := (List.getElem?_eq_some_iff.1 hi).2
          rcases Nat.lt_or_gt_of_ne hij with q1 | q1
          · exact List.pairwise_iff_getElem.1 hp j i hlt1 hlt2 q1 (by rw [e1, e2, hk0, q])
          · exact List.pairwise_iff_getElem.1 hp i j hlt2 hlt1 q1 (by rw [e1, e2, hk0, q])
        rw [mput_other _ _ _ hne]
        exact h1 e (List.mem_of_getElem? hi)
    · intro y hy
      have hyx : y ≠ x := fun q => by
        refine hy { e0 with key := x, val := v } ?_ q.symm
        rw [hml, List.mem_iff_getElem?]
        exact ⟨j, by rw [List.getElem?_modify]; simp [hj2]⟩
      rw [mput_other _ _ _ hyx]
      refine h2 y fun e he => ?_
      rw [List.mem_iff_getElem?] at he
      obtain ⟨i, hi⟩ := he
      by_cases hij : j = i
      · subst hij
        rw [hj2] at hi; injection hi with hi; subst hi
        rw [hk0]; exact Ne.symm hyx
      · exact hy e (by rw [hml, List.mem_iff_getElem?]; exact ⟨i, by rw [List.getElem?_modify]; simp [hij, hi]⟩)

theorem wpList_lookup_m {ops : Array Oper} {rest : List Oper} {o : Oper} {a : Act} {Q : Exit → Act → World → Prop} (hg : o.guard = none) (m x : Operand) (t : TypeId) (hop : o.op = Op.lookup t m x false)
    {e : TypeId} {z key : Value} {lx : Lit} (K : Keyed P k) (ht : P.underlying t = some (.map k e)) (hz : (zeroValue e).run P w = .ok z w) (hm : a.eval m = .map (some b)) (h : MapAt P w k b f n) (hx : a.eval x = key) (hkey : keyOf P k key = some lx)
    {v : Value} (hv : (f key).getD z = v) (hK : wpList P ops Q rest (a.put o.dst v) w) : wpList P ops Q (o :: rest) a w := by
  refine wpList_plain hg fun K' hK' => ?_
  have hrun := h.run_lookup K ht hz hkey false
  unfold Oper.wp
  simp [execOp, hop, hm, hx, hrun, Result.andThen]
  rw [hv]
  exact hK' _ _ hK
theorem wpList_lookup_ok_m {ops : Array Oper} {rest : List Oper} {o : Oper} {a : Act} {Q : Exit → Act → World → Prop} (hg : o.guard = none) (m x : Operand) (t : TypeId) (hop : o.op = Op.lookup t m x true)
    {e : TypeId} {z key : Value} {lx : Lit} (K : Keyed P k) (ht : P.underlying t = some (.map k e)) (hz : (zeroValue e).run P w = .ok z w) (hm : a.eval m = .map (some b)) (h : MapAt P w k b f n) (hx : a.eval x = key) (hkey : keyOf P k key = some lx)
    {v : Value} (hv : (f key).getD z = v) {ok : Bool} (hok : (f key).isSome = ok) (hK : wpList P ops Q rest (a.put o.dst (.tuple #[v, .bool ok])) w) : wpList P ops Q (o :: rest) a w := by
  refine wpList_plain hg fun K' hK' => ?_
  have hrun := h.run_lookup K ht hz hkey true
  unfold Oper.wp
  simp [execOp, hop, hm, hx, hrun, Result.andThen]
  rw [hv, hok]
  exact hK' _ _ hK
theorem wpList_update_m {ops : Array Oper} {rest : List Oper} {o : Oper} {a : Act} {Q : Exit → Act → World → Prop} (hg : o.guard = none) (m x v : Operand) (t : TypeId) (hop : o.op = Op.mapUpdate t m x v)
    {e : TypeId} {key val : Value} {lx : Lit} (K : Keyed P k) (ht : P.underlying t = some (.map k e)) (hm : a.eval m = .map (some b)) (h : MapAt P w k b f n) (hx : a.eval x = key) (hv : a.eval v = val) (hkey : keyOf P k key = some lx)
    (hK : ∀ w', MapAt P w' k b (mput f key val) (if (f key).isSome then n else n + 1) → Touch [b] w w' → wpList P ops Q rest (a.put o.dst undef) w') : wpList P ops Q (o :: rest) a w := by
  refine wpList_plain hg fun K' hK' => ?_
  obtain ⟨w', hrun, h1, h2⟩ := h.run_update (v := val) K ht hkey
  unfold Oper.wp
  simp [execOp, hop, hm, hx, hv, hrun, Result.andThen]
  exact hK' _ _ (hK w' h1 h2)
end

theorem mapM_some {α β : Type} {f : α → Option β} : ∀ {L : List α}, (∀ x ∈ L, ∃ y, f x = some y) → ∃ ys, L.mapM f = some ys
  | [], _ => ⟨[], rfl⟩
  | x :: L, h => by
    obtain ⟨y, hy⟩ := h x (by simp)
    obtain ⟨ys, hys⟩ := mapM_some (L := L) fun z hz => h z (by simp [hz])
    exact ⟨y :: ys, by simp [List.mapM_cons, hy, hys]⟩
/-- a row of integers as a key -/
theorem keyOf_row {P : Program} {k e : TypeId} {q : IntKind} {N : Nat} (A : WideMaps.ArrKey P k e N) (he : P.underlying e = some (.int q)) (hsz : ∃ m, P.types.size = m + 1) (l : List Int) (hl : l.length = N) (hw : ∀ z ∈ l, (Lit.int q z).wf = true) :
    ∃ lx, keyOf P k (.agg (l.map (Value.int q)).toArray) = some lx := by
  have hkt := A.keyType hsz
  obtain ⟨m, hm⟩ := hsz
  unfold keyOf
  simp only [A.hu]
  rw [if_pos (by simp [hkt, Value.formed, A.hu, A.size, hl]), hm]
  unfold Program.keyLits
  simp only [A.hu, Value.cells]
  rw [if_pos (by rw [A.size]; simpa using hl)]
  obtain ⟨ys, hys⟩ := mapM_some (f := fun i => P.keyLits (m + 1) e (((l.map (Value.int q)).toArray.toList.drop (i * P.cellsOf e)).take (P.cellsOf e))) (L := List.range N) fun i hi => by
    have hi' : i < l.length := by rw [hl]; simpa using hi
    refine ⟨[.int q l[i]], ?_⟩
    rw [A.one, Nat.mul_one, List.toList_toArray, List.drop_eq_getElem_cons (by simpa using hi')]
    simp [Program.keyLits, he, hw l[i] (List.getElem_mem hi')]
  rw [hys]
  exact ⟨_, rfl⟩
theorem ints_inj {q : IntKind} : ∀ {l m : List Int}, l.map (Value.int q) = m.map (Value.int q) → l = m
  | [], [], _ => rfl
  | [], _ :: _, h => by simp at h
  | _ :: _, [], h => by simp at h
  | a :: l, b :: m, h => by
    simp only [List.map_cons, List.cons.injEq, Value.int.injEq, true_and] at h
    rw [h.1, ints_inj h.2]
/-- two rows of integers, alike or not -/
theorem equal_rows {P : Program} {k e : TypeId} {q : IntKind} {N : Nat} (A : WideMaps.ArrKey P k e N) (he : P.underlying e = some (.int q)) (hsz : ∃ m, P.types.size = m + 1) (l m : List Int) (hl : l.length = N) (hm : m.length = N) (hw : ∀ z ∈ l, (Lit.int q z).wf = true) (hv : ∀ z ∈ m, (Lit.int q z).wf = true) (w : World) :
    (Op.equal k (.agg (l.map (Value.int q)).toArray) (.agg (m.map (Value.int q)).toArray)).run P w = .ok (decide (l = m)) w := by
  obtain ⟨lx, hx⟩ := keyOf_row A he hsz l hl hw
  obtain ⟨ly, hy⟩ := keyOf_row A he hsz m hm hv
  obtain ⟨r, hr, hi⟩ := run_equal_deep w (m := 2) (by omega) (A.at 0) A.wide hx hy
  rw [hr]
  congr 1
  have K := A.law
  rw [Bool.eq_iff_iff, hi, decide_eq_true_iff]
  constructor
  · intro q1
    subst q1
    have := K.inj hx hy
    simp only [Value.agg.injEq] at this
    exact ints_inj (List.toArray_inj this)
  · intro q1
    subst q1
    rw [hx] at hy
    exact Option.some.inj hy
end Go.Proofs.Ythbcgbmpicgjiaa
