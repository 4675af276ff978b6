/- One of the texts that lead to the theorem lexPlays.proved: the conditions stand in each theorem. -/
import Derived.Test.YthdncmagfgoboaaGreatDoorChecked
import Derived.WalkKit
import Derived.WalkLawsBesides
import Derived.WalkSpells
import Derived.Lib.Hide
import Derived.BigQuiet
import Derived.Deep.QuietTactic
set_option linter.unusedSimpArgs false
set_option linter.unusedVariables false
namespace Go.Proofs.YthdncmagfgoboaaGreatDoor
theorem ents_ {α : Type} : (∀ (l : List α), l.toArray.size = l.length) ∧ (∀ (a : α) l, (a :: l).length = l.length + 1) ∧ (([] : List α).length = 0) ∧ (∀ n (a : α), Array.replicate (n + 1) a = (Array.replicate n a).push a) ∧ (∀ (a : α), Array.replicate 0 a = #[]) ∧ (∀ (l : List α) a, l.toArray.push a = (l ++ [a]).toArray) ∧ (∀ (l k : List α), l.toArray ++ k.toArray = (l ++ k).toArray) ∧ (∀ (l : List α), [] ++ l = l) ∧ ∀ (a : α) l k, (a :: l) ++ k = a :: (l ++ k) :=
  ⟨fun _ => rfl, fun _ _ => rfl, rfl, fun _ _ => Array.replicate_succ, fun _ => rfl, fun _ _ => List.push_toArray .., fun _ _ => List.append_toArray .., fun _ => rfl, fun _ _ _ => rfl⟩
theorem getsl_ {α : Type} : (∀ (l : List α) (i : Nat), l.toArray[i]? = l[i]?) ∧ (∀ (a : α) (l : List α) (i : Nat), (a :: l)[i + 1]? = l[i]?) ∧ ∀ (a : α) (l : List α), (a :: l)[0]? = some a := ⟨fun _ _ => List.getElem?_toArray .., fun _ _ _ => rfl, fun _ _ => rfl⟩
theorem sets_ {α : Type} : (∀ (l : List α) (i : Nat) a, l.toArray.setIfInBounds i a = (l.set i a).toArray) ∧ (∀ (x : α) l a, (x :: l).set 0 a = a :: l) ∧ ∀ (x : α) l (i : Nat) a, (x :: l).set (i + 1) a = x :: l.set i a := ⟨fun _ _ _ => List.setIfInBounds_toArray .., fun _ _ _ => rfl, fun _ _ _ _ => rfl⟩
end Go.Proofs.YthdncmagfgoboaaGreatDoor
namespace Go.Proofs.YthdncmagfgoboaaGreatDoor
open Go.RowKit
structure Touch (F : List Nat) (w w' : World) : Prop where
 os : w'.os = w.os
 tape : w'.tape = w.tape
 output : w'.output = w.output
 size : w.heap.size ≤ w'.heap.size
 block : ∀ k, k < w.heap.size → k ∉ F → w'.heap[k]? = w.heap[k]?
theorem Touch.refl (F : List Nat) (w : World) : Touch F w w := ⟨rfl, rfl, rfl, Nat.le_refl _, fun _ _ _ => rfl⟩
theorem Touch.mono {F G : List Nat} {w w' : World} (h : Touch F w w') (hs : ∀ k, k ∈ F → k ∈ G ∨ w.heap.size ≤ k) : Touch G w w' :=
 ⟨h.os, h.tape, h.output, h.size, fun k hk hg => h.block k hk fun hf => by
  rcases hs k hf with h1 | h1
  · exact hg h1
  · omega⟩
theorem Touch.trans {F : List Nat} {a b c : World} (h : Touch F a b) (k : Touch F b c) : Touch F a c :=
 ⟨k.os.trans h.os, k.tape.trans h.tape, k.output.trans h.output, Nat.le_trans h.size k.size, fun i hi hf => (k.block i (Nat.lt_of_lt_of_le hi h.size) hf).trans (h.block i hi hf)⟩
theorem Touch.step {F G : List Nat} {a b c : World} (h : Touch F a b) (k : Touch G b c) (hs : ∀ x, x ∈ G → x ∈ F ∨ a.heap.size ≤ x) : Touch F a c :=
 ⟨k.os.trans h.os, k.tape.trans h.tape, k.output.trans h.output, Nat.le_trans h.size k.size, fun i hi hf => (k.block i (Nat.lt_of_lt_of_le hi h.size) (fun hg => by
  rcases hs i hg with h1 | h1
  · exact hf h1
  · omega)).trans (h.block i hi hf)⟩
theorem Touch.drew {F : List Nat} {a w : World} (h : Touch F a w) : Touch F a w.drew := ⟨h.os, h.tape, h.output, h.size, h.block⟩
theorem Touch.drewN {F : List Nat} {a w : World} (h : Touch F a w) (n : Nat) : Touch F a (w.drewN n) := ⟨h.os, h.tape, h.output, h.size, h.block⟩
theorem Touch.alloc {F : List Nat} {a w : World} (h : Touch F a w) (o : Obj) : Touch F a (w.alloc o) :=
 h.trans ⟨rfl, rfl, rfl, by simp, fun k hk _ => Below.heap_alloc _ _ _ (by omega)⟩
theorem Touch.setCell {F : List Nat} {a w : World} (h : Touch F a w) {p : Addr} (hp : p.block ∈ F ∨ a.heap.size ≤ p.block) (u : Value) : Touch F a (w.setCell p u) :=
 ⟨h.os, h.tape, h.output, by simpa [World.setCell] using h.size, fun k hk hf => (Below.heap_setCell _ _ _ _ (by
  rintro rfl
  rcases hp with h1 | h1
  · exact hf h1
  · omega)).trans (h.block k hk hf)⟩
theorem Touch.below {w w' : World} (h : Touch [] w w') : Below w.heap.size w w' := ⟨h.os, h.tape, h.output, h.size, fun k hk => h.block k hk (by simp)⟩
theorem Touch.of_below {w w' : World} (h : Below w.heap.size w w') (F : List Nat) : Touch F w w' := ⟨h.os, h.tape, h.output, h.size, fun k hk _ => h.block k hk⟩
theorem Touch.keep {F : List Nat} {w w' : World} (h : Touch F w w') {b : Nat} {o : Obj} (hb : w.heap[b]? = some o) (hf : b ∉ F) : w'.heap[b]? = some o :=
 (h.block b (Array.getElem?_eq_some_iff.1 hb).1 hf).trans hb
theorem Touch.lt {F : List Nat} {w w' : World} (h : Touch F w w') {b : Nat} (hb : b < w.heap.size) : b < w'.heap.size := Nat.lt_of_lt_of_le hb h.size
theorem aB {w : World} {b : Nat} {o : Obj} (hb : w.heap[b]? = some o) : b < w.heap.size := (Array.getElem?_eq_some_iff.1 hb).1
theorem Touch.cell {F : List Nat} {w w' : World} (h : Touch F w w') {a : Addr} {v : Value} (hc : w.cell? a = some v) (hf : a.block ∉ F) : w'.cell? a = some v :=
 (World.cell?_of_block (h.block a.block (World.block_lt_of_cell? w a hc) hf)).trans hc
theorem aN {w : World} {b : Nat} {c : Array Value} {t : TypeId} {f : Nat × Nat} (h : w.heap[b]? = some (.cells c t f)) (i : Nat) : w.cell? ⟨b, i, none⟩ = c[i]? := by
 simp [World.cell?, h]
theorem aQ {w : World} {b : Nat} {c : Array Value} {t : TypeId} (h : w.heap[b]? = some (.cells c t (0, 0))) (i : Nat) : w.frozen? ⟨b, i, none⟩ = false := by
 simp [World.frozen?, h]
theorem aF {w : World} {b : Nat} {c : Array Value} {t : TypeId} {f : Nat × Nat} (h : w.heap[b]? = some (.cells c t f)) (i : Nat) (v : Value) :
 (w.setCell ⟨b, i, none⟩ v).heap[b]? = some (.cells (c.setIfInBounds i v) t f) := by
 simp [World.setCell, Array.getElem?_modify, h]
theorem aU {w : World} {b : Nat} {o : Option Obj} (h : w.heap[b]? = o) {a : Addr} (hb : a.block ≠ b) (v : Value) : (w.setCell a v).heap[b]? = o := by
 rw [Below.heap_setCell _ _ _ _ (by omega)]; exact h
theorem aW {w : World} {b : Nat} {o : Obj} (h : w.heap[b]? = some o) (x : Obj) : (w.alloc x).heap[b]? = some o := by
 rw [Below.heap_alloc _ _ _ (aB h)]; exact h
theorem aZ (w : World) (x : Obj) : (w.alloc x).heap[w.heap.size]? = some x := by
 show (w.heap.push x)[_]? = _
 simp
theorem bA {w : World} {b : Nat} {o : Option Obj} (h : w.heap[b]? = o) (n : Nat) : (w.drewN n).heap[b]? = o := h
theorem tE {n : Int} (h : (Lit.int .u8 n).wf = true) : 0 ≤ n ∧ n ≤ 255 := by
 have hmin : IntKind.u8.min = 0 := rfl
 have hmax : IntKind.u8.max = 255 := rfl
 simp only [Lit.wf, Bool.and_eq_true, decide_eq_true_eq] at h
 omega
structure Post (P : Program) (fn : Func) (R : Ending → World → Prop) (Q : Exit → Act → World → Prop) : Prop where
 ret : ∀ {a : Act} {w : World} {v : Value}, (results fn a.tmps).run P w = .ok v w → a.defers = [] → R (.returned v) w → Q .ret a w
 fin : ∀ {a : Act} {w : World} {v : Value}, (results fn a.tmps).run P w = .ok v w → a.defers = [] → R (.returned v) w → Q .normal a w
 pan : ∀ {c : List PanicEntry} {a : Act} {d : Option Tmp} {v : Value} {w : World}, Q (.panic c) (a.put d v) w → Q (.panic c) a w
theorem aA {P : Program} {f : FuncId} {fn : Func} {c : Code} {args : Array Value} {w : World} {R : Ending → World → Prop}
 (hf : P.funcs[f]? = some fn) (hb : fn.body = some c)
 (h : ∀ Q : Exit → Act → World → Prop, Post P fn R Q → c.wp P Q { tmps := args ++ Array.replicate (fn.ntmps - args.size) undef, defers := [] } w) : Calls P f args w R :=
 calls_of_wp hf hb (h _ ⟨fun hr hd hR => bodyPost_ret hr hd hR, fun hr hd hR => bodyPost_end hr hd hR, fun {c a d v w} h => by cases d <;> exact h⟩)
theorem cs3 {w : World} {b : Nat} {v0 v1 v2 : Value} {t : TypeId} {f : Nat × Nat} (h : w.heap[b]? = some (.cells #[v0, v1, v2] t f)) : w.cell? ⟨b, 0, none⟩ = some v0 ∧ w.cell? ⟨b, 1, none⟩ = some v1 ∧ w.cell? ⟨b, 2, none⟩ = some v2 := ⟨aN h 0, aN h 1, aN h 2⟩
theorem fs3 {w : World} {b : Nat} {c : Array Value} {t : TypeId} (h : w.heap[b]? = some (.cells c t (0, 0))) : w.frozen? ⟨b, 0, none⟩ = false ∧ w.frozen? ⟨b, 1, none⟩ = false ∧ w.frozen? ⟨b, 2, none⟩ = false := ⟨aQ h 0, aQ h 1, aQ h 2⟩
theorem cs4 {w : World} {b : Nat} {v0 v1 v2 v3 : Value} {t : TypeId} {f : Nat × Nat} (h : w.heap[b]? = some (.cells #[v0, v1, v2, v3] t f)) : w.cell? ⟨b, 0, none⟩ = some v0 ∧ w.cell? ⟨b, 1, none⟩ = some v1 ∧ w.cell? ⟨b, 2, none⟩ = some v2 ∧ w.cell? ⟨b, 3, none⟩ = some v3 := ⟨aN h 0, aN h 1, aN h 2, aN h 3⟩
theorem fs4 {w : World} {b : Nat} {c : Array Value} {t : TypeId} (h : w.heap[b]? = some (.cells c t (0, 0))) : w.frozen? ⟨b, 0, none⟩ = false ∧ w.frozen? ⟨b, 1, none⟩ = false ∧ w.frozen? ⟨b, 2, none⟩ = false ∧ w.frozen? ⟨b, 3, none⟩ = false := ⟨aQ h 0, aQ h 1, aQ h 2, aQ h 3⟩
theorem cs5 {w : World} {b : Nat} {v0 v1 v2 v3 v4 : Value} {t : TypeId} {f : Nat × Nat} (h : w.heap[b]? = some (.cells #[v0, v1, v2, v3, v4] t f)) : w.cell? ⟨b, 0, none⟩ = some v0 ∧ w.cell? ⟨b, 1, none⟩ = some v1 ∧ w.cell? ⟨b, 2, none⟩ = some v2 ∧ w.cell? ⟨b, 3, none⟩ = some v3 ∧ w.cell? ⟨b, 4, none⟩ = some v4 := ⟨aN h 0, aN h 1, aN h 2, aN h 3, aN h 4⟩
theorem fs5 {w : World} {b : Nat} {c : Array Value} {t : TypeId} (h : w.heap[b]? = some (.cells c t (0, 0))) : w.frozen? ⟨b, 0, none⟩ = false ∧ w.frozen? ⟨b, 1, none⟩ = false ∧ w.frozen? ⟨b, 2, none⟩ = false ∧ w.frozen? ⟨b, 3, none⟩ = false ∧ w.frozen? ⟨b, 4, none⟩ = false := ⟨aQ h 0, aQ h 1, aQ h 2, aQ h 3, aQ h 4⟩
theorem cs6 {w : World} {b : Nat} {v0 v1 v2 v3 v4 v5 : Value} {t : TypeId} {f : Nat × Nat} (h : w.heap[b]? = some (.cells #[v0, v1, v2, v3, v4, v5] t f)) : w.cell? ⟨b, 0, none⟩ = some v0 ∧ w.cell? ⟨b, 1, none⟩ = some v1 ∧ w.cell? ⟨b, 2, none⟩ = some v2 ∧ w.cell? ⟨b, 3, none⟩ = some v3 ∧ w.cell? ⟨b, 4, none⟩ = some v4 ∧ w.cell? ⟨b, 5, none⟩ = some v5 := ⟨aN h 0, aN h 1, aN h 2, aN h 3, aN h 4, aN h 5⟩
theorem fs6 {w : World} {b : Nat} {c : Array Value} {t : TypeId} (h : w.heap[b]? = some (.cells c t (0, 0))) : w.frozen? ⟨b, 0, none⟩ = false ∧ w.frozen? ⟨b, 1, none⟩ = false ∧ w.frozen? ⟨b, 2, none⟩ = false ∧ w.frozen? ⟨b, 3, none⟩ = false ∧ w.frozen? ⟨b, 4, none⟩ = false ∧ w.frozen? ⟨b, 5, none⟩ = false := ⟨aQ h 0, aQ h 1, aQ h 2, aQ h 3, aQ h 4, aQ h 5⟩
theorem cs7 {w : World} {b : Nat} {v0 v1 v2 v3 v4 v5 v6 : Value} {t : TypeId} {f : Nat × Nat} (h : w.heap[b]? = some (.cells #[v0, v1, v2, v3, v4, v5, v6] t f)) : w.cell? ⟨b, 0, none⟩ = some v0 ∧ w.cell? ⟨b, 1, none⟩ = some v1 ∧ w.cell? ⟨b, 2, none⟩ = some v2 ∧ w.cell? ⟨b, 3, none⟩ = some v3 ∧ w.cell? ⟨b, 4, none⟩ = some v4 ∧ w.cell? ⟨b, 5, none⟩ = some v5 ∧ w.cell? ⟨b, 6, none⟩ = some v6 := ⟨aN h 0, aN h 1, aN h 2, aN h 3, aN h 4, aN h 5, aN h 6⟩
theorem fs7 {w : World} {b : Nat} {c : Array Value} {t : TypeId} (h : w.heap[b]? = some (.cells c t (0, 0))) : w.frozen? ⟨b, 0, none⟩ = false ∧ w.frozen? ⟨b, 1, none⟩ = false ∧ w.frozen? ⟨b, 2, none⟩ = false ∧ w.frozen? ⟨b, 3, none⟩ = false ∧ w.frozen? ⟨b, 4, none⟩ = false ∧ w.frozen? ⟨b, 5, none⟩ = false ∧ w.frozen? ⟨b, 6, none⟩ = false := ⟨aQ h 0, aQ h 1, aQ h 2, aQ h 3, aQ h 4, aQ h 5, aQ h 6⟩
theorem cs8 {w : World} {b : Nat} {v0 v1 v2 v3 v4 v5 v6 v7 : Value} {t : TypeId} {f : Nat × Nat} (h : w.heap[b]? = some (.cells #[v0, v1, v2, v3, v4, v5, v6, v7] t f)) : w.cell? ⟨b, 0, none⟩ = some v0 ∧ w.cell? ⟨b, 1, none⟩ = some v1 ∧ w.cell? ⟨b, 2, none⟩ = some v2 ∧ w.cell? ⟨b, 3, none⟩ = some v3 ∧ w.cell? ⟨b, 4, none⟩ = some v4 ∧ w.cell? ⟨b, 5, none⟩ = some v5 ∧ w.cell? ⟨b, 6, none⟩ = some v6 ∧ w.cell? ⟨b, 7, none⟩ = some v7 := ⟨aN h 0, aN h 1, aN h 2, aN h 3, aN h 4, aN h 5, aN h 6, aN h 7⟩
theorem fs8 {w : World} {b : Nat} {c : Array Value} {t : TypeId} (h : w.heap[b]? = some (.cells c t (0, 0))) : w.frozen? ⟨b, 0, none⟩ = false ∧ w.frozen? ⟨b, 1, none⟩ = false ∧ w.frozen? ⟨b, 2, none⟩ = false ∧ w.frozen? ⟨b, 3, none⟩ = false ∧ w.frozen? ⟨b, 4, none⟩ = false ∧ w.frozen? ⟨b, 5, none⟩ = false ∧ w.frozen? ⟨b, 6, none⟩ = false ∧ w.frozen? ⟨b, 7, none⟩ = false := ⟨aQ h 0, aQ h 1, aQ h 2, aQ h 3, aQ h 4, aQ h 5, aQ h 6, aQ h 7⟩
end Go.Proofs.YthdncmagfgoboaaGreatDoor
