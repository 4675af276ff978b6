/- The lexer's small functions. -/
import Derived.Test.YthdncmagfgoboaaGreatDoorFirst
import Derived.Test.YthdncmagfgoboaaGreatDoorBA
namespace Go.Proofs.YthdncmagfgoboaaGreatDoor
open Go.RowKit
set_option maxRecDepth 100000
set_option maxHeartbeats 8000000
set_option linter.unusedVariables false
set_option linter.unusedSimpArgs false

/-- a lexer at b: the place, where the word began, the word -/
def LexAt (w : World) (b : Nat) (at_ from_ : Nat) (v : Value) : Prop := w.heap[b]? = some (.cells #[.int .i64 at_, .int .i64 from_, v] 72 (0, 0))
/-- a number under way as a word -/
abbrev figV (p : Nat) : Value := .iface 75 (.agg #[.pointer (some ⟨p, 0, none⟩)])
abbrev litV (p : Nat) : Value := .iface 102 (.pointer (some ⟨p, 0, none⟩))
abbrev strV (p : Nat) : Value := .iface 84 (.agg #[.pointer (some ⟨p, 0, none⟩)])
abbrev tokV (kind from_ end_ : Nat) (n : Int) (s : List UInt8) : Value := .agg #[.int .i64 kind, .int .i64 from_, .int .i64 end_, .int .i64 n, .string (str s)]


theorem lexnew_any (w : World) : Calls Tryz.prog 16 #[] w fun e w' => (∃ p, e = .returned (.pointer (some ⟨p, 0, none⟩)) ∧ w.heap.size ≤ p ∧ LexAt w' p 0 0 .nilIface) ∧ Touch [] w w' := by
  let kp_ : Exit → Act → World → Prop := bodyPost Tryz.prog Tryz.f16 (fun _ _ => True)
  refine calls_post Tryz.func16 rfl ?_
  intro Q_ hQ_
  simp only [Tryz.ntmps16, List.size_toArray, List.length_cons, List.length_nil, Nat.reduceAdd, Nat.reduceSub, Array.replicate_succ, Array.replicate_zero, List.push_toArray, List.append_toArray, List.nil_append, List.cons_append]
  go_wp2
  (try simp only [Exit.inBlock, Exit.then])
  refine hQ_.ret (results_tmp rfl _ _ _) rfl ?_
  exact ⟨⟨w.heap.size, rfl, Nat.le_refl _, alloc_new _ _⟩, (Touch.refl _ _).alloc _⟩

theorem lexat_any (b a f : Nat) (v : Value) (w : World) (h : LexAt w b a f v) : Calls Tryz.prog 18 #[.pointer (some ⟨b, 0, none⟩)] w fun e w' => e = .returned (.int .i64 a) ∧ w = w' := by
  unfold LexAt at h
  have c0 := cell_at h 0
  have c1 := cell_at h 1
  have c2 := cell_at h 2
  have f0 := free_at h 0
  have f1 := free_at h 1
  have f2 := free_at h 2
  have lb := block_lt h
  simp at c0 c1 c2
  let kp_ : Exit → Act → World → Prop := bodyPost Tryz.prog Tryz.f18 (fun _ _ => True)
  refine calls_post Tryz.func18 rfl ?_
  intro Q_ hQ_
  simp only [Tryz.ntmps18, List.size_toArray, List.length_cons, List.length_nil, Nat.reduceAdd, Nat.reduceSub, Array.replicate_succ, Array.replicate_zero, List.push_toArray, List.append_toArray, List.nil_append, List.cons_append]
  go_wp2
  (try simp only [Exit.inBlock, Exit.then])
  refine hQ_.ret (results_tmp rfl _ _ _) rfl ?_
  exact ⟨rfl, rfl⟩

theorem token_any (b a f kind end_ : Nat) (v : Value) (w : World) (h : LexAt w b a f v) : Calls Tryz.prog 35 #[.pointer (some ⟨b, 0, none⟩), .int .i64 kind, .int .i64 end_] w fun e w' => e = .returned (tokV kind f end_ 0 []) ∧ Touch [] w w' := by
  unfold LexAt at h
  have c0 := cell_at h 0
  have c1 := cell_at h 1
  have c2 := cell_at h 2
  have f0 := free_at h 0
  have f1 := free_at h 1
  have f2 := free_at h 2
  have lb := block_lt h
  simp at c0 c1 c2
  let kp_ : Exit → Act → World → Prop := bodyPost Tryz.prog Tryz.f35 (fun _ _ => True)
  refine calls_post Tryz.func35 rfl ?_
  intro Q_ hQ_
  simp only [Tryz.ntmps35, List.size_toArray, List.length_cons, List.length_nil, Nat.reduceAdd, Nat.reduceSub, Array.replicate_succ, Array.replicate_zero, List.push_toArray, List.append_toArray, List.nil_append, List.cons_append]
  go_wp2
  (try simp only [Exit.inBlock, Exit.then])
  have hC := alloc_new w (.cells #[.int .i64 kind, .int .i64 f, .int .i64 end_, .int .i64 0, .string ⟨#[]⟩] 41)
  have r0 := cell_at hC 0
  have r1 := cell_at hC 1
  have r2 := cell_at hC 2
  have r3 := cell_at hC 3
  have r4 := cell_at hC 4
  simp at r0 r1 r2 r3 r4
  refine hQ_.ret (v := tokV kind f end_ 0 []) (by simp [results, Tryz.results35, go_sem, r0, r1, r2, r3, r4]; rfl) rfl ⟨rfl, (Touch.refl _ _).alloc _⟩

theorem strnew_any (w : World) : Calls Tryz.prog 85 #[] w fun e w' => (∃ p, e = .returned (.pointer (some ⟨p, 0, none⟩)) ∧ w.heap.size ≤ p) ∧ Touch [] w w' := by
  let kp_ : Exit → Act → World → Prop := bodyPost Tryz.prog Tryz.f85 (fun _ _ => True)
  refine calls_post Tryz.func85 rfl ?_
  intro Q_ hQ_
  simp only [Tryz.ntmps85, List.size_toArray, List.length_cons, List.length_nil, Nat.reduceAdd, Nat.reduceSub, Array.replicate_succ, Array.replicate_zero, List.push_toArray, List.append_toArray, List.nil_append, List.cons_append]
  go_wp2
  (try simp only [Exit.inBlock, Exit.then])
  refine hQ_.ret (results_tmp rfl _ _ _) rfl ?_
  exact ⟨⟨_, rfl, Nat.le_succ _⟩, ((Touch.refl _ _).alloc _).alloc _⟩

theorem inside_fig (b a f p : Nat) (w : World) (h : LexAt w b a f (figV p)) : Calls Tryz.prog 22 #[.pointer (some ⟨b, 0, none⟩)] w fun e w' => e = .returned (.int .i64 4) ∧ Touch [] w w' := by
  unfold LexAt at h
  have c0 := cell_at h 0
  have c1 := cell_at h 1
  have c2 := cell_at h 2
  have f0 := free_at h 0
  have f1 := free_at h 1
  have f2 := free_at h 2
  have lb := block_lt h
  simp at c0 c1 c2
  have hm : ∀ w, (method 332 75 (.agg #[.pointer (some ⟨p, 0, none⟩)]) "orthoepy/lex.kind").run Tryz.prog w = .ok (180, .agg #[.pointer (some ⟨p, 0, none⟩)]) w := fun w => by kernel_rfl
  let kp_ : Exit → Act → World → Prop := bodyPost Tryz.prog Tryz.f22 (fun _ _ => True)
  refine calls_post Tryz.func22 rfl ?_
  intro Q_ hQ_
  simp only [Tryz.ntmps22, List.size_toArray, List.length_cons, List.length_nil, Nat.reduceAdd, Nat.reduceSub, Array.replicate_succ, Array.replicate_zero, List.push_toArray, List.append_toArray, List.nil_append, List.cons_append]
  go_wp2
  (try simp only [Exit.inBlock, Exit.then])
  refine hQ_.ret (results_tmp rfl _ _ _) rfl ?_
  exact ⟨rfl, (Touch.refl _ _).alloc _⟩

theorem literals_any (k : Nat) (hk : k = 1 ∨ k = 2 ∨ k = 3) (w : World) : Calls Tryz.prog 83 #[.int .i64 k] w fun e w' => e = .returned (.string (str (if k = 1 then [110, 117, 108, 108] else if k = 2 then [116, 114, 117, 101] else [102, 97, 108, 115, 101]))) ∧ w = w' := by
  rcases hk with rfl | rfl | rfl
  all_goals
    let kp_ : Exit → Act → World → Prop := bodyPost Tryz.prog Tryz.f83 (fun _ _ => True)
    refine calls_post Tryz.func83 rfl ?_
    intro Q_ hQ_
    simp only [Tryz.ntmps83, List.size_toArray, List.length_cons, List.length_nil, Nat.reduceAdd, Nat.reduceSub, Array.replicate_succ, Array.replicate_zero, List.push_toArray, List.append_toArray, List.nil_append, List.cons_append]
    go_wp2
    (try simp only [Exit.inBlock, Exit.then])
    refine hQ_.ret (results_tmp rfl _ _ _) rfl ?_
    exact ⟨rfl, rfl⟩
end Go.Proofs.YthdncmagfgoboaaGreatDoor
