/- One of the texts that lead to the theorem lexPlays.proved: the conditions stand in each theorem. -/
import Derived.Test.YthdncmagfgoboaaGreatDoorP17
import Derived.Test.YthdncmagfgoboaaGreatDoorP7
set_option linter.unusedSimpArgs false
set_option linter.unusedVariables false
namespace Go.Proofs.YthdncmagfgoboaaGreatDoor
open Go.RowKit
set_option maxRecDepth 100000
set_option maxHeartbeats 8000000
def bB (w : World) (b : Nat) (at_ from_ : Nat) (v : Value) : Prop := w.heap[b]? = some (.cells #[.int .i64 at_, .int .i64 from_, v] 72 (0, 0))
abbrev figV (p : Nat) : Value := .iface 75 (.agg #[.pointer (some ⟨p, 0, none⟩)])
abbrev litV (p : Nat) : Value := .iface 102 (.pointer (some ⟨p, 0, none⟩))
abbrev strV (p : Nat) : Value := .iface 84 (.agg #[.pointer (some ⟨p, 0, none⟩)])
abbrev tokV (kind from_ end_ : Nat) (n : Int) (s : List UInt8) : Value := .agg #[.int .i64 kind, .int .i64 from_, .int .i64 end_, .int .i64 n, .string (str s)]
theorem fH (w : World) : Calls Tryz.prog 16 #[] w fun e w' => (∃ p, e = .returned (.pointer (some ⟨p, 0, none⟩)) ∧ w.heap.size ≤ p ∧ bB w' p 0 0 .nilIface) ∧ Touch [] w w' := by
 refine aA Tryz.func16 rfl ?_
 intro Q_ hQ_
 simp only [Tryz.ntmps16, ents_, Nat.reduceAdd, Nat.reduceSub]
 go_wp2
 refine hQ_.ret (results_tmp rfl _ _ _) rfl ?_
 exact ⟨⟨w.heap.size, rfl, Nat.le_refl _, aZ _ _⟩, (Touch.refl _ _).alloc _⟩
theorem uF (b a f : Nat) (v : Value) (w : World) (h : bB w b a f v) : Calls Tryz.prog 18 #[.pointer (some ⟨b, 0, none⟩)] w fun e w' => e = .returned (.int .i64 a) ∧ w = w' := by
 unfold bB at h
 have ⟨c0,c1,c2⟩ := cs3 h
 have ⟨f0,f1,f2⟩ := fs3 h
 have lb := aB h
 try simp at c0 c1 c2
 refine aA Tryz.func18 rfl ?_
 intro Q_ hQ_
 simp only [Tryz.ntmps18, ents_, Nat.reduceAdd, Nat.reduceSub]
 go_wp2
 refine hQ_.ret (results_tmp rfl _ _ _) rfl ?_
 exact ⟨rfl, rfl⟩
theorem gA (b a f kind end_ : Nat) (v : Value) (w : World) (h : bB w b a f v) : Calls Tryz.prog 35 #[.pointer (some ⟨b, 0, none⟩), .int .i64 kind, .int .i64 end_] w fun e w' => e = .returned (tokV kind f end_ 0 []) ∧ Touch [] w w' := by
 unfold bB at h
 have ⟨c0,c1,c2⟩ := cs3 h
 have ⟨f0,f1,f2⟩ := fs3 h
 have lb := aB h
 try simp at c0 c1 c2
 refine aA Tryz.func35 rfl ?_
 intro Q_ hQ_
 simp only [Tryz.ntmps35, ents_, Nat.reduceAdd, Nat.reduceSub]
 go_wp2
 (try simp only [Exit.inBlock, Exit.then])
 have hC := aZ w (.cells #[.int .i64 kind, .int .i64 f, .int .i64 end_, .int .i64 0, .string ⟨#[]⟩] 41)
 have ⟨r0,r1,r2,r3,r4⟩ := cs5 hC
 try simp at r0 r1 r2 r3 r4
 refine hQ_.ret (v := tokV kind f end_ 0 []) (by simp [results, Tryz.results35, go_sem, r0, r1, r2, r3, r4]; rfl) rfl ⟨rfl, (Touch.refl _ _).alloc _⟩
theorem sH (b a f p : Nat) (w : World) (h : bB w b a f (figV p)) : Calls Tryz.prog 22 #[.pointer (some ⟨b, 0, none⟩)] w fun e w' => e = .returned (.int .i64 4) ∧ Touch [] w w' := by
 unfold bB at h
 have ⟨c0,c1,c2⟩ := cs3 h
 have ⟨f0,f1,f2⟩ := fs3 h
 have lb := aB h
 try simp at c0 c1 c2
 have hm : ∀ w, (method 332 75 (.agg #[.pointer (some ⟨p, 0, none⟩)]) "orthoepy/lex.kind").run Tryz.prog w = .ok (180, .agg #[.pointer (some ⟨p, 0, none⟩)]) w := fun w => by kernel_rfl
 refine aA Tryz.func22 rfl ?_
 intro Q_ hQ_
 simp only [Tryz.ntmps22, ents_, Nat.reduceAdd, Nat.reduceSub]
 go_wp2
 refine hQ_.ret (results_tmp rfl _ _ _) rfl ?_
 exact ⟨rfl, (Touch.refl _ _).alloc _⟩
theorem oN (k : Nat) (hk : k = 1 ∨ k = 2 ∨ k = 3) (w : World) : Calls Tryz.prog 83 #[.int .i64 k] w fun e w' => e = .returned (.string (str (if k = 1 then [110, 117, 108, 108] else if k = 2 then [116, 114, 117, 101] else [102, 97, 108, 115, 101]))) ∧ w = w' := by
 rcases hk with rfl | rfl | rfl
 all_goals
  refine aA Tryz.func83 rfl ?_
  intro Q_ hQ_
  simp only [Tryz.ntmps83, ents_, Nat.reduceAdd, Nat.reduceSub]
  go_wp2
  refine hQ_.ret (results_tmp rfl _ _ _) rfl ?_
  exact ⟨rfl, rfl⟩
end Go.Proofs.YthdncmagfgoboaaGreatDoor
