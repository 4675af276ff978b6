/- The lexer's examples: awake. -/
import Derived.Test.YthdncmagfgoboaaGreatDoorLexE
import Derived.Lib.SlBytesConst
import Derived.Laws.StructEq
namespace Go.Proofs.YthdncmagfgoboaaGreatDoor
open Go.RowKit
set_option maxRecDepth 100000
set_option maxHeartbeats 8000000
set_option linter.unusedVariables false
set_option linter.unusedSimpArgs false

theorem toks_cell {w : World} {A : Option Addr} {n c : Nat} {l : List (Nat × Nat × Nat × Int × List UInt8)} {g : Option Nat} (h : ToksAt w (.slice A n c) l g) (hl : 0 < l.length) : ∃ k, A = some ⟨k, 0, none⟩ ∧ g = some k ∧ n = l.length ∧ k < w.heap.size ∧ ∀ w', Touch [] w w' → ∀ j u, (tokCells l)[j]? = some u → w'.cell? ⟨k, j, none⟩ = some u := by
  unfold ToksAt at h
  rcases h.shape with ⟨q1, q2, _⟩ | ⟨k, cap, cur, q1, q2, q3, _⟩
  · omega
  · injection q1 with e1 e2 e3
    exact ⟨k, e1, q2, e2, block_lt q3, fun w' ht j u hu => ht.cell (h.cell q2 hu) (by simp)⟩

theorem bytes_cell {w : World} {c : Array Value} {f : Nat × Nat} {w' : World} (h : Touch [] (w.alloc (.cells c 5 f)) w') (i : Nat) (v : Value) (hi : c[i]? = some v) : w'.cell? ⟨w.heap.size, i, none⟩ = some v := by
  have := cell_at (alloc_new w (.cells c 5 f)) i
  rw [hi] at this
  exact h.cell this (by simp)

theorem tok_eq (a b c d : Int) (w : World) : (binOp .eql 41 (.agg #[.int .i64 a, .int .i64 b, .int .i64 c, .int .i64 d, .string ⟨#[]⟩]) (.agg #[.int .i64 a, .int .i64 b, .int .i64 c, .int .i64 d, .string ⟨#[]⟩])).run Tryz.prog w = .ok (.bool true) w := by
  go_simp

theorem awake16 (w : World) : Calls Tryz.prog 8 #[] w fun e w' => e = .returned (.bool true) ∧ Touch [] w w' := by
  have hv0 : ∀ w : World, (convert 22 22 (.slice (some ⟨w.heap.size, 0, none⟩) 3 3)).run Tryz.prog (w.alloc (.cells #[.int .u8 49, .int .u8 50, .int .u8 44] 5)) = .ok (.slice (some ⟨w.heap.size, 0, none⟩) 3 3) (w.alloc (.cells #[.int .u8 49, .int .u8 50, .int .u8 44] 5 (3, 4))) := fun w => Lib.run_convert_bytes_const (P := Tryz.prog) w 22 5 #[.int .u8 49, .int .u8 50, .int .u8 44] 3 3 Tryz.underlying22 Tryz.underlying5
  have hv1 : ∀ w : World, (convert 22 22 (.slice (some ⟨w.heap.size, 0, none⟩) 3 3)).run Tryz.prog (w.alloc (.cells #[.int .u8 116, .int .u8 114, .int .u8 117] 5)) = .ok (.slice (some ⟨w.heap.size, 0, none⟩) 3 3) (w.alloc (.cells #[.int .u8 116, .int .u8 114, .int .u8 117] 5 (3, 4))) := fun w => Lib.run_convert_bytes_const (P := Tryz.prog) w 22 5 #[.int .u8 116, .int .u8 114, .int .u8 117] 3 3 Tryz.underlying22 Tryz.underlying5
  have hv2 : ∀ w : World, (convert 22 22 (.slice (some ⟨w.heap.size, 0, none⟩) 4 4)).run Tryz.prog (w.alloc (.cells #[.int .u8 49, .int .u8 46, .int .u8 53, .int .u8 32] 5)) = .ok (.slice (some ⟨w.heap.size, 0, none⟩) 4 4) (w.alloc (.cells #[.int .u8 49, .int .u8 46, .int .u8 53, .int .u8 32] 5 (4, 5))) := fun w => Lib.run_convert_bytes_const (P := Tryz.prog) w 22 5 #[.int .u8 49, .int .u8 46, .int .u8 53, .int .u8 32] 4 4 Tryz.underlying22 Tryz.underlying5
  let kp_ : Exit → Act → World → Prop := bodyPost Tryz.prog Tryz.f8 (fun _ _ => True)
  refine calls_post Tryz.func8 rfl ?_
  intro Q_ hQ_
  simp only [Tryz.ntmps8, List.size_toArray, List.length_cons, List.length_nil, Nat.reduceAdd, Nat.reduceSub, Array.replicate_succ, Array.replicate_zero, List.push_toArray, List.append_toArray, List.nil_append, List.cons_append]
  go_wp2_with fail
  refine (lexall_12 w.heap.size 3 _ (fun w' h => ⟨bytes_cell (w := w) (c := #[.int .u8 49, .int .u8 50, .int .u8 44]) h 0 _ rfl, bytes_cell (w := w) (c := #[.int .u8 49, .int .u8 50, .int .u8 44]) h 1 _ rfl, bytes_cell (w := w) (c := #[.int .u8 49, .int .u8 50, .int .u8 44]) h 2 _ rfl⟩)).mono ?_
  rintro e w1 ⟨⟨ad, cc, g, rfl, hk⟩, ht1⟩
  try go_simp
  have T1 := ((Touch.refl [] w).alloc _).trans ht1
  clear ht1
  go_wp2_with fail
  refine (lexall_tru w1.heap.size 3 _ (fun w' h => ⟨bytes_cell (w := w1) (c := #[.int .u8 116, .int .u8 114, .int .u8 117]) h 0 _ rfl, bytes_cell (w := w1) (c := #[.int .u8 116, .int .u8 114, .int .u8 117]) h 1 _ rfl, bytes_cell (w := w1) (c := #[.int .u8 116, .int .u8 114, .int .u8 117]) h 2 _ rfl⟩)).mono ?_
  rintro e w2 ⟨rfl, ht2⟩
  try go_simp
  have T2 := ((Touch.refl [] w1).alloc _).trans ht2
  clear ht2
  go_wp2_with fail
  refine (lexall_frac w2.heap.size 4 _ (fun w' h => ⟨bytes_cell (w := w2) (c := #[.int .u8 49, .int .u8 46, .int .u8 53, .int .u8 32]) h 0 _ rfl, bytes_cell (w := w2) (c := #[.int .u8 49, .int .u8 46, .int .u8 53, .int .u8 32]) h 1 _ rfl, bytes_cell (w := w2) (c := #[.int .u8 49, .int .u8 46, .int .u8 53, .int .u8 32]) h 2 _ rfl, bytes_cell (w := w2) (c := #[.int .u8 49, .int .u8 46, .int .u8 53, .int .u8 32]) h 3 _ rfl⟩)).mono ?_
  rintro e w3 ⟨rfl, ht3⟩
  try go_simp
  have T3 := T2.trans (((Touch.refl [] w2).alloc _).trans ht3)
  clear ht3 T2
  clear hv0 hv1 hv2
  go_upto_region 4 with (fail)
  obtain ⟨k, rfl, rfl, hn, hkl, hcell⟩ := toks_cell hk (by simp)
  clear hn
  have hc := hcell w3 T3
  have c0 : w3.cell? ⟨k, 0, none⟩ = some (.int .i64 4) := hc 0 _ rfl
  have c1 : w3.cell? ⟨k, 1, none⟩ = some (.int .i64 0) := hc 1 _ rfl
  have c2 : w3.cell? ⟨k, 2, none⟩ = some (.int .i64 2) := hc 2 _ rfl
  have c3 : w3.cell? ⟨k, 3, none⟩ = some (.int .i64 12) := hc 3 _ rfl
  have c4 : w3.cell? ⟨k, 4, none⟩ = some (.string ⟨#[]⟩) := hc 4 _ rfl
  have c5 : w3.cell? ⟨k, 5, none⟩ = some (.int .i64 11) := hc 5 _ rfl
  have c6 : w3.cell? ⟨k, 6, none⟩ = some (.int .i64 2) := hc 6 _ rfl
  have c7 : w3.cell? ⟨k, 7, none⟩ = some (.int .i64 3) := hc 7 _ rfl
  have c8 : w3.cell? ⟨k, 8, none⟩ = some (.int .i64 0) := hc 8 _ rfl
  have c9 : w3.cell? ⟨k, 9, none⟩ = some (.string ⟨#[]⟩) := hc 9 _ rfl
  have kl := T3.lt hkl
  have hT := T1.trans T3
  clear hc hcell hk T1 T3 hkl
  have te1 := tok_eq 4 0 2 12
  have te2 := tok_eq 11 2 3 0
  go_wp2
  (try simp only [Exit.inBlock, Exit.then])
  refine hQ_.ret (results_tmp rfl _ _ _) rfl ?_
  exact ⟨rfl, hT⟩
end Go.Proofs.YthdncmagfgoboaaGreatDoor
