/- Words for the walks of this seat: what a call may have touched. -/
import Derived.Test.YthbcgbmpicgjiaaChecked
import Derived.WalkKit
import Derived.WalkLawsBesides
import Derived.WalkSpells
import Derived.Lib.Hide
import Derived.BigQuiet
import Derived.Deep.QuietTactic
namespace Go.Proofs.Ythbcgbmpicgjiaa
open Go.RowKit

/-- 'only the blocks of F, and new ones, may have turned'. -/
structure Touch (F : List Nat) (w w' : World) : Prop where
  os : w'.os = w.os
  tape : w'.tape = w.tape
  output : w'.output = w.output
  size : w.heap.size ≤ w'.heap.size
  block : ∀ k, k < w.heap.size → k ∉ F → w'.heap[k]? = w.heap[k]?

theorem Touch.refl (F : List Nat) (w : World) : Touch F w w := ⟨rfl, rfl, rfl, Nat.le_refl _, fun _ _ _ => rfl⟩
theorem Touch.mono {F G : List Nat} {w w' : World} (h : Touch F w w') (hs : ∀ k, k ∈ F → k ∈ G ∨ w.heap.size ≤ k) : Touch G w w' :=
  ⟨h.os, h.tape, h.output, h.size, fun k hk hg => h.block k hk fun hf => by
    rcases hs k hf with h1 | h1
    · exact hg h1
    · omega⟩
theorem Touch.trans {F : List Nat} {a b c : World} (h : Touch F a b) (k : Touch F b c) : Touch F a c :=
  ⟨k.os.trans h.os, k.tape.trans h.tape, k.output.trans h.output, Nat.le_trans h.size k.size, fun i hi hf => (k.block i (Nat.lt_of_lt_of_le hi h.size) hf).trans (h.block i hi hf)⟩
/-- the second step's blocks: those of F, or such as are new. -/
theorem Touch.step {F G : List Nat} {a b c : World} (h : Touch F a b) (k : Touch G b c) (hs : ∀ x, x ∈ G → x ∈ F ∨ a.heap.size ≤ x) : Touch F a c :=
  ⟨k.os.trans h.os, k.tape.trans h.tape, k.output.trans h.output, Nat.le_trans h.size k.size, fun i hi hf => (k.block i (Nat.lt_of_lt_of_le hi h.size) (fun hg => by
    rcases hs i hg with h1 | h1
    · exact hf h1
    · omega)).trans (h.block i hi hf)⟩
theorem Touch.drew {F : List Nat} {a w : World} (h : Touch F a w) : Touch F a w.drew := ⟨h.os, h.tape, h.output, h.size, h.block⟩
theorem Touch.drewN {F : List Nat} {a w : World} (h : Touch F a w) (n : Nat) : Touch F a (w.drewN n) := ⟨h.os, h.tape, h.output, h.size, h.block⟩
theorem Touch.alloc {F : List Nat} {a w : World} (h : Touch F a w) (o : Obj) : Touch F a (w.alloc o) :=
  h.trans ⟨rfl, rfl, rfl, by simp, fun k hk _ => Below.heap_alloc _ _ _ (by omega)⟩
theorem Touch.setCell {F : List Nat} {a w : World} (h : Touch F a w) {p : Addr} (hp : p.block ∈ F ∨ a.heap.size ≤ p.block) (u : Value) : Touch F a (w.setCell p u) :=
  ⟨h.os, h.tape, h.output, by simpa [World.setCell] using h.size, fun k hk hf => (Below.heap_setCell _ _ _ _ (by
    rintro rfl
    rcases hp with h1 | h1
    · exact hf h1
    · omega)).trans (h.block k hk hf)⟩
theorem Touch.below {w w' : World} (h : Touch [] w w') : Below w.heap.size w w' := ⟨h.os, h.tape, h.output, h.size, fun k hk => h.block k hk (by simp)⟩
theorem Touch.of_below {w w' : World} (h : Below w.heap.size w w') (F : List Nat) : Touch F w w' := ⟨h.os, h.tape, h.output, h.size, fun k hk _ => h.block k hk⟩
theorem Touch.keep {F : List Nat} {w w' : World} (h : Touch F w w') {b : Nat} {o : Obj} (hb : w.heap[b]? = some o) (hf : b ∉ F) : w'.heap[b]? = some o :=
  (h.block b (Array.getElem?_eq_some_iff.1 hb).1 hf).trans hb
theorem Touch.lt {F : List Nat} {w w' : World} (h : Touch F w w') {b : Nat} (hb : b < w.heap.size) : b < w'.heap.size := Nat.lt_of_lt_of_le hb h.size
theorem block_lt {w : World} {b : Nat} {o : Obj} (hb : w.heap[b]? = some o) : b < w.heap.size := (Array.getElem?_eq_some_iff.1 hb).1

theorem Touch.cell {F : List Nat} {w w' : World} (h : Touch F w w') {a : Addr} {v : Value} (hc : w.cell? a = some v) (hf : a.block ∉ F) : w'.cell? a = some v :=
  (World.cell?_of_block (h.block a.block (World.block_lt_of_cell? w a hc) hf)).trans hc
/-- a block's cells, one by one. -/
theorem cell_at {w : World} {b : Nat} {c : Array Value} {t : TypeId} {f : Nat × Nat} (h : w.heap[b]? = some (.cells c t f)) (i : Nat) : w.cell? ⟨b, i, none⟩ = c[i]? := by
  simp [World.cell?, h]
theorem free_at {w : World} {b : Nat} {c : Array Value} {t : TypeId} (h : w.heap[b]? = some (.cells c t (0, 0))) (i : Nat) : w.frozen? ⟨b, i, none⟩ = false := by
  simp [World.frozen?, h]
theorem set_same {w : World} {b : Nat} {c : Array Value} {t : TypeId} {f : Nat × Nat} (h : w.heap[b]? = some (.cells c t f)) (i : Nat) (v : Value) :
    (w.setCell ⟨b, i, none⟩ v).heap[b]? = some (.cells (c.setIfInBounds i v) t f) := by
  simp [World.setCell, Array.getElem?_modify, h]
theorem set_other {w : World} {b : Nat} {o : Option Obj} (h : w.heap[b]? = o) {a : Addr} (hb : a.block ≠ b) (v : Value) : (w.setCell a v).heap[b]? = o := by
  rw [Below.heap_setCell _ _ _ _ (by omega)]; exact h
theorem alloc_old {w : World} {b : Nat} {o : Obj} (h : w.heap[b]? = some o) (x : Obj) : (w.alloc x).heap[b]? = some o := by
  rw [Below.heap_alloc _ _ _ (block_lt h)]; exact h
theorem alloc_new (w : World) (x : Obj) : (w.alloc x).heap[w.heap.size]? = some x := by
  show (w.heap.push x)[_]? = _
  simp
theorem drew_heap {w : World} {b : Nat} {o : Option Obj} (h : w.heap[b]? = o) : w.drew.heap[b]? = o := h
theorem drewN_heap {w : World} {b : Nat} {o : Option Obj} (h : w.heap[b]? = o) (n : Nat) : (w.drewN n).heap[b]? = o := h
theorem i64_bounds {n : Int} (h : (Lit.int .i64 n).wf = true) : -9223372036854775808 ≤ n ∧ n ≤ 9223372036854775807 := by
  have hmin : IntKind.i64.min = -9223372036854775808 := rfl
  have hmax : IntKind.i64.max = 9223372036854775807 := rfl
  simp only [Lit.wf, Bool.and_eq_true, decide_eq_true_eq] at h
  omega
theorem u8_bounds {n : Int} (h : (Lit.int .u8 n).wf = true) : 0 ≤ n ∧ n ≤ 255 := by
  have hmin : IntKind.u8.min = 0 := rfl
  have hmax : IntKind.u8.max = 255 := rfl
  simp only [Lit.wf, Bool.and_eq_true, decide_eq_true_eq] at h
  omega
theorem i32_bounds {n : Int} (h : (Lit.int .i32 n).wf = true) : -2147483648 ≤ n ∧ n ≤ 2147483647 := by
  have hmin : IntKind.i32.min = -2147483648 := rfl
  have hmax : IntKind.i32.max = 2147483647 := rfl
  simp only [Lit.wf, Bool.and_eq_true, decide_eq_true_eq] at h
  omega
/-- the post of a call, its results' side alone: a letter in the walk, so that a return behind many cuts costs nothing. -/
structure Post (P : Program) (fn : Func) (R : Ending → World → Prop) (Q : Exit → Act → World → Prop) : Prop where
  ret : ∀ {a : Act} {w : World} {v : Value}, (results fn a.tmps).run P w = .ok v w → a.defers = [] → R (.returned v) w → Q .ret a w
  fin : ∀ {a : Act} {w : World} {v : Value}, (results fn a.tmps).run P w = .ok v w → a.defers = [] → R (.returned v) w → Q .normal a w
  pan : ∀ {c : List PanicEntry} {a : Act} {d : Option Tmp} {v : Value} {w : World}, Q (.panic c) (a.put d v) w → Q (.panic c) a w
theorem calls_post {P : Program} {f : FuncId} {fn : Func} {c : Code} {args : Array Value} {w : World} {R : Ending → World → Prop}
    (hf : P.funcs[f]? = some fn) (hb : fn.body = some c)
    (h : ∀ Q : Exit → Act → World → Prop, Post P fn R Q → c.wp P Q { tmps := args ++ Array.replicate (fn.ntmps - args.size) undef, defers := [] } w) : Calls P f args w R :=
  calls_of_wp hf hb (h _ ⟨fun hr hd hR => bodyPost_ret hr hd hR, fun hr hd hR => bodyPost_end hr hd hR, fun {c a d v w} h => by cases d <;> exact h⟩)
end Go.Proofs.Ythbcgbmpicgjiaa
