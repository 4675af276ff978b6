/- The lexer outside of a word. -/
import Derived.Test.YthdncmagfgoboaaGreatDoorLexA
import Derived.Test.YthdncmagfgoboaaGreatDoorNumW
namespace Go.Proofs.YthdncmagfgoboaaGreatDoor
open Go.RowKit
set_option maxRecDepth 100000
set_option maxHeartbeats 8000000
set_option linter.unusedVariables false
set_option linter.unusedSimpArgs false

theorem sliceT_tok : SliceT Tryz.prog 32 41 (tokV 0 0 0 0 []) 5 48 := by
  refine ⟨Tryz.underlying32, by rfl, by decide, by decide, ?_⟩
  exact info_parts (by kernel_rfl)
/-- a literal under way -/
def LitAt (w : World) (q : Nat) (t : List UInt8) (n k : Nat) : Prop := w.heap[q]? = some (.cells #[.string (str t), .int .i64 n, .int .i64 k] 104 (0, 0))
def litText (k : Nat) : List UInt8 := if k = 1 then [110, 117, 108, 108] else if k = 2 then [116, 114, 117, 101] else [102, 97, 108, 115, 101]
/-- tokens of one's own -/
def tokCells (l : List (Nat × Nat × Nat × Int × List UInt8)) : List Value := l.flatMap fun t => [.int .i64 t.1, .int .i64 t.2.1, .int .i64 t.2.2.1, .int .i64 t.2.2.2.1, .string (str t.2.2.2.2)]
def ToksAt (w : World) (v : Value) (l : List (Nat × Nat × Nat × Int × List UInt8)) (g : Option Nat) : Prop := SlAt w 41 5 v l.length (tokCells l) g

theorem alloc_new_eq {w : World} {o : Obj} {k : Nat} (hk : k = w.heap.size) : (w.alloc o).heap[k]? = some o := by
  subst hk
  exact alloc_new w o

theorem outside_bad (b a f : Nat) (v : Value) (x : Int) (ov : Value) (w : World) (h : LexAt w b a f v) (hk : firstF x = 0) (hb : blankF x = false) :
    Calls Tryz.prog 54 #[.pointer (some ⟨b, 0, none⟩), .int .u8 x, ov] w fun e w' => e = .returned (.tuple #[.slice none 0 0, .int .i64 2]) ∧ w = w' := by
  have hfi := fun w => first_any x w
  have hbl := fun w => blank_any x w
  rw [hk] at hfi
  unfold LexAt at h
  have c0 := cell_at h 0
  have c1 := cell_at h 1
  have c2 := cell_at h 2
  have f0 := free_at h 0
  have f1 := free_at h 1
  have f2 := free_at h 2
  have lb := block_lt h
  simp at c0 c1 c2
  let kp_ : Exit → Act → World → Prop := bodyPost Tryz.prog Tryz.f54 (fun _ _ => True)
  refine calls_post Tryz.func54 rfl ?_
  intro Q_ hQ_
  simp only [Tryz.ntmps54, List.size_toArray, List.length_cons, List.length_nil, Nat.reduceAdd, Nat.reduceSub, Array.replicate_succ, Array.replicate_zero, List.push_toArray, List.append_toArray, List.nil_append, List.cons_append]
  go_wp2_with fail
  refine (hfi _).mono ?_
  rintro e w1 ⟨rfl, rfl⟩
  try go_simp
  rw [hb] at hbl
  go_wp2_with fail
  refine (hbl _).mono ?_
  rintro e w1 ⟨rfl, rfl⟩
  try go_simp
  go_wp2
  (try simp only [Exit.inBlock, Exit.then])
  refine hQ_.ret (results_tmp2 rfl _ _ _) rfl ?_
  exact ⟨rfl, rfl⟩

theorem outside_blank (b a f : Nat) (v : Value) (x : Int) (A : Option Addr) (n C : Nat) (w : World) (h : LexAt w b a f v) (hk : firstF x = 0) (hb : blankF x = true) :
    Calls Tryz.prog 54 #[.pointer (some ⟨b, 0, none⟩), .int .u8 x, .slice A n C] w fun e w' => e = .returned (.tuple #[.slice A n C, .int .i64 0]) ∧ LexAt w' b a a .nilIface ∧ Touch [b] w w' := by
  have h0 := h
  have hfi := fun w => first_any x w
  have hbl := fun w => blank_any x w
  rw [hk] at hfi
  unfold LexAt at h
  have c0 := cell_at h 0
  have c1 := cell_at h 1
  have c2 := cell_at h 2
  have f0 := free_at h 0
  have f1 := free_at h 1
  have f2 := free_at h 2
  have lb := block_lt h
  simp at c0 c1 c2
  let kp_ : Exit → Act → World → Prop := bodyPost Tryz.prog Tryz.f54 (fun _ _ => True)
  refine calls_post Tryz.func54 rfl ?_
  intro Q_ hQ_
  simp only [Tryz.ntmps54, List.size_toArray, List.length_cons, List.length_nil, Nat.reduceAdd, Nat.reduceSub, Array.replicate_succ, Array.replicate_zero, List.push_toArray, List.append_toArray, List.nil_append, List.cons_append]
  go_wp2_with fail
  refine (hfi _).mono ?_
  rintro e w1 ⟨rfl, rfl⟩
  try go_simp
  rw [hb] at hbl
  go_wp2_with fail
  refine (hbl _).mono ?_
  rintro e w1 ⟨rfl, rfl⟩
  try go_simp
  go_wp2
  (try simp only [Exit.inBlock, Exit.then])
  refine hQ_.ret (results_tmp2 rfl _ _ _) rfl ?_
  exact ⟨rfl, set_same (set_same h0 2 _) 1 _, ((Touch.refl _ _).setCell (by simp) _).setCell (by simp) _⟩

theorem outside_lit (b a f : Nat) (v : Value) (x : Int) (k : Nat) (A : Option Addr) (n C : Nat) (w : World) (h : LexAt w b a f v) (hk : firstF x = k) (hk3 : k = 1 ∨ k = 2 ∨ k = 3) :
    Calls Tryz.prog 54 #[.pointer (some ⟨b, 0, none⟩), .int .u8 x, .slice A n C] w fun e w' => e = .returned (.tuple #[.slice A n C, .int .i64 0]) ∧ (∃ q, LexAt w' b a a (litV q) ∧ LitAt w' q (litText k) 1 k ∧ w.heap.size ≤ q) ∧ Touch [b] w w' := by
  have h0 := h
  have hl := fun w => literals_any k hk3 w
  have hfi := fun w => first_any x w
  have hbl := fun w => blank_any x w
  rw [hk] at hfi
  unfold LexAt at h
  have c0 := cell_at h 0
  have c1 := cell_at h 1
  have c2 := cell_at h 2
  have f0 := free_at h 0
  have f1 := free_at h 1
  have f2 := free_at h 2
  have lb := block_lt h
  simp at c0 c1 c2
  let kp_ : Exit → Act → World → Prop := bodyPost Tryz.prog Tryz.f54 (fun _ _ => True)
  refine calls_post Tryz.func54 rfl ?_
  intro Q_ hQ_
  simp only [Tryz.ntmps54, List.size_toArray, List.length_cons, List.length_nil, Nat.reduceAdd, Nat.reduceSub, Array.replicate_succ, Array.replicate_zero, List.push_toArray, List.append_toArray, List.nil_append, List.cons_append]
  go_wp2_with fail
  refine (hfi _).mono ?_
  rintro e w1 ⟨rfl, rfl⟩
  try go_simp
  rcases hk3 with rfl | rfl | rfl
  all_goals
    go_wp2_with fail
    refine (hl _).mono ?_
    rintro e w1 ⟨rfl, rfl⟩
    try go_simp
    go_wp2
    (try simp only [Exit.inBlock, Exit.then])
    refine hQ_.ret (results_tmp2 rfl _ _ _) rfl ?_
    refine ⟨rfl, ⟨w.heap.size, alloc_old (set_same (set_same (set_same h0 2 _) 2 _) 1 _) _, alloc_new_eq (by simp), Nat.le_refl _⟩, ?_⟩
    exact ((((Touch.refl _ _).setCell (by simp) _).setCell (by simp) _).setCell (by simp) _).alloc _

theorem outside_str (b a f : Nat) (v : Value) (x : Int) (A : Option Addr) (n C : Nat) (w : World) (h : LexAt w b a f v) (hk : firstF x = 5) :
    Calls Tryz.prog 54 #[.pointer (some ⟨b, 0, none⟩), .int .u8 x, .slice A n C] w fun e w' => e = .returned (.tuple #[.slice A n C, .int .i64 0]) ∧ (∃ q, LexAt w' b a a (strV q)) ∧ Touch [b] w w' := by
  have h0 := h
  have hfi := fun w => first_any x w
  have hbl := fun w => blank_any x w
  rw [hk] at hfi
  unfold LexAt at h
  have c0 := cell_at h 0
  have c1 := cell_at h 1
  have c2 := cell_at h 2
  have f0 := free_at h 0
  have f1 := free_at h 1
  have f2 := free_at h 2
  have lb := block_lt h
  simp at c0 c1 c2
  let kp_ : Exit → Act → World → Prop := bodyPost Tryz.prog Tryz.f54 (fun _ _ => True)
  refine calls_post Tryz.func54 rfl ?_
  intro Q_ hQ_
  simp only [Tryz.ntmps54, List.size_toArray, List.length_cons, List.length_nil, Nat.reduceAdd, Nat.reduceSub, Array.replicate_succ, Array.replicate_zero, List.push_toArray, List.append_toArray, List.nil_append, List.cons_append]
  go_wp2_with fail
  refine (hfi _).mono ?_
  rintro e w1 ⟨rfl, rfl⟩
  try go_simp
  go_wp2_with fail
  refine (strnew_any _).mono ?_
  rintro e w1 ⟨⟨q, rfl, hq⟩, ht⟩
  try go_simp
  have h1 : w1.heap[b]? = some (.cells #[.int .i64 a, .int .i64 f, .nilIface] 72 (0, 0)) := ht.keep (set_same h0 2 _) (by simp)
  clear c0 c1 c2 f0 f1 f2 lb
  have c0 := cell_at h1 0
  have c1 := cell_at h1 1
  have c2 := cell_at h1 2
  have f0 := free_at h1 0
  have f1 := free_at h1 1
  have f2 := free_at h1 2
  have lb := block_lt h1
  simp at c0 c1 c2
  go_wp2
  (try simp only [Exit.inBlock, Exit.then])
  refine hQ_.ret (results_tmp2 rfl _ _ _) rfl ?_
  exact ⟨rfl, ⟨q, set_same (set_same h1 2 _) 1 _⟩, ((((Touch.refl [b] w).setCell (by simp) _).trans (ht.mono (by simp))).setCell (by simp) _).setCell (by simp) _⟩

theorem tokCells_snoc (l : List (Nat × Nat × Nat × Int × List UInt8)) (k a e : Nat) (n : Int) (s : List UInt8) : tokCells (l ++ [(k, a, e, n, s)]) = tokCells l ++ [.int .i64 k, .int .i64 a, .int .i64 e, .int .i64 n, .string (str s)] := by
  unfold tokCells
  rw [List.flatMap_append]
  rfl

theorem outside_tok (b a f : Nat) (v : Value) (x : Int) (k : Nat) (l : List (Nat × Nat × Nat × Int × List UInt8)) (A : Option Addr) (C : Nat) (g : Option Nat) (w : World) (h : LexAt w b a f v) (hs : ToksAt w (.slice A l.length C) l g) (hgb : ∀ j, g = some j → j ≠ b) (hll : l.length ≤ 100) (hk : firstF x = k) (hk6 : 6 ≤ k) (hk11 : k ≤ 11) (ha : a ≤ 1000000000) :
    Calls Tryz.prog 54 #[.pointer (some ⟨b, 0, none⟩), .int .u8 x, .slice A l.length C] w fun e w' => (∃ ad c g', e = .returned (.tuple #[.slice ad (l.length + 1) c, .int .i64 0]) ∧ ToksAt w' (.slice ad (l.length + 1) c) (l ++ [(k, a, a + 1, 0, [])]) g' ∧ (∀ j, g' = some j → g = some j ∨ w.heap.size ≤ j)) ∧ LexAt w' b a a .nilIface ∧ Touch (b :: g.toList) w w' := by
  have h0 := h
  have t0 : ((k : Int) == 0) = false := by simp; omega
  have t1 : ((k : Int) == 1) = false := by simp; omega
  have t2 : ((k : Int) == 2) = false := by simp; omega
  have t3 : ((k : Int) == 3) = false := by simp; omega
  have t4 : ((k : Int) == 4) = false := by simp; omega
  have t5 : ((k : Int) == 5) = false := by simp; omega
  have hgm : b ∉ g.toList := fun q => by
    cases g with
    | none => simp at q
    | some j => simp at q; exact hgb j rfl q.symm
  have hgs : ∀ j, g = some j → j ∉ [b] := fun j hj q => hgb j hj (List.mem_singleton.1 q)
  unfold ToksAt at hs
  have hfi := fun w => first_any x w
  have hbl := fun w => blank_any x w
  rw [hk] at hfi
  unfold LexAt at h
  have c0 := cell_at h 0
  have c1 := cell_at h 1
  have c2 := cell_at h 2
  have f0 := free_at h 0
  have f1 := free_at h 1
  have f2 := free_at h 2
  have lb := block_lt h
  simp at c0 c1 c2
  let kp_ : Exit → Act → World → Prop := bodyPost Tryz.prog Tryz.f54 (fun _ _ => True)
  refine calls_post Tryz.func54 rfl ?_
  intro Q_ hQ_
  simp only [Tryz.ntmps54, List.size_toArray, List.length_cons, List.length_nil, Nat.reduceAdd, Nat.reduceSub, Array.replicate_succ, Array.replicate_zero, List.push_toArray, List.append_toArray, List.nil_append, List.cons_append]
  go_wp2_with fail
  refine (hfi _).mono ?_
  rintro e w1 ⟨rfl, rfl⟩
  try go_simp
  go_wp2_with (at_builtin; refine wpList_append_sl sliceT_tok rfl (.tmp 28) (.tmp 34) rfl rfl (hs.keep (((Touch.refl [b] _).setCell (by simp) _).alloc _) hgs) rfl (srcAt_block (f := (0, 0)) (c := #[.int .i64 k, .int .i64 a, .int .i64 ((a : Int) + 1), .int .i64 0, .string ⟨#[]⟩]) (alloc_new_eq (by simp)) rfl (by simp [Value.oneCell'])) (by omega) ?_; intro ad4 c4 w4 g4 hs4 ht4 hn4; have h4 := ht4.keep (alloc_old (set_same h0 2 .nilIface) _) hgm; have q0 := cell_at h4 0; have q1 := cell_at h4 1; have q2 := cell_at h4 2; have p1 := free_at h4 1; have pl := block_lt h4; simp at q0 q1 q2)
  (try simp only [Exit.inBlock, Exit.then])
  refine hQ_.ret (results_tmp2 rfl _ _ _) rfl ?_
  have hg4 : ∀ j, g4 = some j → g = some j ∨ w.heap.size ≤ j := fun j hj => by
    rcases hn4 with q | ⟨i, q1, q2⟩
    · exact .inl (q ▸ hj)
    · rw [hj] at q1; injection q1 with q1; subst q1; simp at q2; exact .inr (by omega)
  refine ⟨⟨ad4, c4, g4, rfl, ?_, hg4⟩, set_same h4 1 _, ?_⟩
  · unfold ToksAt
    rw [List.length_append, List.length_singleton, tokCells_snoc]
    refine SlAt.keep (F := [b]) ?_ ((Touch.refl [b] _).setCell (by simp) _) (fun j hj q => ?_)
    · rw [Int.natCast_add]; exact hs4
    · rcases hg4 j hj with e | e
      · exact hgs j e q
      · have := List.mem_singleton.1 q; omega
  · refine Touch.setCell ?_ (by simp) _
    exact Touch.step (((Touch.refl _ _).setCell (by simp) _).alloc _) ht4 (fun y hy => .inl (List.mem_cons_of_mem _ hy))

theorem outside_int (b a f : Nat) (v : Value) (c : UInt8) (n' : Num.St) (A : Option Addr) (n C : Nat) (w : World) (h : LexAt w b a f v) (hk : firstF c.toNat = 4) (hp : Num.push Num.St.start c.toNat = .ok n') :
    Calls Tryz.prog 54 #[.pointer (some ⟨b, 0, none⟩), .int .u8 c.toNat, .slice A n C] w fun e w' => e = .returned (.tuple #[.slice A n C, .int .i64 0]) ∧ (∃ p g tv, LexAt w' b a a (figV p) ∧ NumF w' p [c] n' g tv ∧ w.heap.size ≤ p ∧ (∀ k, g = some k → w.heap.size ≤ k)) ∧ Touch [b] w w' := by
  have h0 := h
  obtain ⟨x, hx⟩ : ∃ x : Int, x = (c.toNat : Int) := ⟨_, rfl⟩
  have hpu := fun p w hF => push_any p [] Num.St.start none (.slice none 0 0) c w hF Num.start_ok (by simp)
  rw [← hx] at hk hpu ⊢
  replace hp := Box.mk hp
  clear hx
  have hfi := fun w => first_any x w
  have hbl := fun w => blank_any x w
  rw [hk] at hfi
  unfold LexAt at h
  have c0 := cell_at h 0
  have c1 := cell_at h 1
  have c2 := cell_at h 2
  have f0 := free_at h 0
  have f1 := free_at h 1
  have f2 := free_at h 2
  have lb := block_lt h
  simp at c0 c1 c2
  let kp_ : Exit → Act → World → Prop := bodyPost Tryz.prog Tryz.f54 (fun _ _ => True)
  refine calls_post Tryz.func54 rfl ?_
  intro Q_ hQ_
  simp only [Tryz.ntmps54, List.size_toArray, List.length_cons, List.length_nil, Nat.reduceAdd, Nat.reduceSub, Array.replicate_succ, Array.replicate_zero, List.push_toArray, List.append_toArray, List.nil_append, List.cons_append]
  go_wp2_with fail
  refine (hfi _).mono ?_
  rintro e w1 ⟨rfl, rfl⟩
  try go_simp
  go_wp2_with fail
  refine (numnew_any _).mono ?_
  rintro e w1 ⟨⟨p, rfl, hp1, hA⟩, ht1⟩
  try go_simp
  go_wp2_with fail
  refine (hpu p _ hA).mono ?_
  rintro e w2 hpost
  unfold PushPost at hpost
  rw [hp.out] at hpost
  obtain ⟨rfl, ⟨g, tv, hF, hN⟩, ht2⟩ := hpost
  try go_simp
  have hbp : b < p := by simp at hp1; omega
  have h1 : w2.heap[b]? = some (.cells #[.int .i64 a, .int .i64 f, .nilIface] 72 (0, 0)) := ht2.keep (ht1.keep (set_same h0 2 _) (by simp)) (by simp; omega)
  clear c0 c1 c2 f0 f1 f2 lb
  have c0 := cell_at h1 0
  have c1 := cell_at h1 1
  have c2 := cell_at h1 2
  have f0 := free_at h1 0
  have f1 := free_at h1 1
  have f2 := free_at h1 2
  have lb := block_lt h1
  simp at c0 c1 c2
  go_wp2
  (try simp only [Exit.inBlock, Exit.then])
  refine hQ_.ret (results_tmp2 rfl _ _ _) rfl ?_
  have hgw : ∀ k, g = some k → w.heap.size ≤ k := fun k hk => by
    rcases hN with q | ⟨j, q1, q2⟩
    · rw [hk] at q; cases q
    · rw [hk] at q1; injection q1 with q1; subst q1; have := ht1.size; simp at this; omega
  have hwp : w.heap.size ≤ p := by simpa using hp1
  have hbl := block_lt h0
  refine ⟨rfl, ⟨p, g, tv, set_same (set_same h1 2 _) 1 _, ?_, hwp, hgw⟩, ?_⟩
  · refine hF.keep (F := [b]) (((Touch.refl [b] _).setCell (by simp) _).setCell (by simp) _) (by simp; omega) (fun k hk q => ?_)
    have := hgw k hk
    have := List.mem_singleton.1 q
    omega
  · refine (Touch.setCell (Touch.setCell ?_ (by simp) _) (by simp) _)
    refine Touch.step (F := [b]) (Touch.trans ((Touch.refl [b] _).setCell (by simp) _) (ht1.mono (by simp))) ht2 (fun y hy => .inr ?_)
    simp at hy
    omega
end Go.Proofs.YthdncmagfgoboaaGreatDoor
