/- The lexer: one byte more. -/
import Derived.Test.YthdncmagfgoboaaGreatDoorLexB
import Derived.Test.YthdncmagfgoboaaGreatDoorShelf
namespace Go.Proofs.YthdncmagfgoboaaGreatDoor
open Go.RowKit
set_option maxRecDepth 100000
set_option maxHeartbeats 8000000
set_option linter.unusedVariables false
set_option linter.unusedSimpArgs false

/-- a number's bytes -/
def ownB (c : UInt8) : Bool := [48, 49, 50, 51, 52, 53, 54, 55, 56, 57, 45, 43, 46, 101, 69].contains c

section
variable (w : World) (p : Nat)
theorem ta_nil1 : (Instr.typeAssert .nilIface 70 102 true).run Tryz.prog w = .ok (.tuple #[.pointer none, .bool false]) w := by kernel_rfl
theorem ta_nil2 : (Instr.typeAssert .nilIface 70 75 true).run Tryz.prog w = .ok (.tuple #[.agg #[.pointer none], .bool false]) w := by kernel_rfl
theorem ta_nil3 : (Instr.typeAssert .nilIface 70 84 true).run Tryz.prog w = .ok (.tuple #[.agg #[.pointer none], .bool false]) w := by kernel_rfl
theorem ta_fig1 : (Instr.typeAssert (figV p) 70 102 true).run Tryz.prog w = .ok (.tuple #[.pointer none, .bool false]) w := by kernel_rfl
theorem ta_fig2 : (Instr.typeAssert (figV p) 70 75 true).run Tryz.prog w = .ok (.tuple #[.agg #[.pointer (some ⟨p, 0, none⟩)], .bool true]) w := by kernel_rfl
theorem ta_lit1 : (Instr.typeAssert (litV p) 70 102 true).run Tryz.prog w = .ok (.tuple #[.pointer (some ⟨p, 0, none⟩), .bool true]) w := by kernel_rfl
end

theorem lexpush_nil (b a f : Nat) (x : Int) (w : World) (R : Ending → World → Prop) (h : LexAt w b a f .nilIface)
    (hO : Calls Tryz.prog 54 #[.pointer (some ⟨b, 0, none⟩), .int .u8 x, .slice none 0 0] w fun e w' => ∃ v0 v1, e = .returned (.tuple #[v0, v1]) ∧ R e w') :
    Calls Tryz.prog 33 #[.pointer (some ⟨b, 0, none⟩), .int .u8 x] w R := by
  unfold LexAt at h
  have c0 := cell_at h 0
  have c1 := cell_at h 1
  have c2 := cell_at h 2
  have f0 := free_at h 0
  have f1 := free_at h 1
  have f2 := free_at h 2
  have lb := block_lt h
  simp at c0 c1 c2
  have ta1 := ta_nil1
  have ta2 := ta_nil2
  have ta3 := ta_nil3
  let kp_ : Exit → Act → World → Prop := bodyPost Tryz.prog Tryz.f33 (fun _ _ => True)
  refine calls_post Tryz.func33 rfl ?_
  intro Q_ hQ_
  simp only [Tryz.ntmps33, List.size_toArray, List.length_cons, List.length_nil, Nat.reduceAdd, Nat.reduceSub, Array.replicate_succ, Array.replicate_zero, List.push_toArray, List.append_toArray, List.nil_append, List.cons_append]
  go_wp2_with fail
  refine hO.mono ?_
  rintro e w1 ⟨v0, v1, rfl, hR⟩
  try go_simp
  go_wp2
  (try simp only [Exit.inBlock, Exit.then])
  refine hQ_.ret (results_tmp2 rfl _ _ _) rfl ?_
  exact hR

theorem own_ix (c : UInt8) : (0 ≤ Lib.indexByte [48, 49, 50, 51, 52, 53, 54, 55, 56, 57, 45, 43, 46, 101, 69] c) ↔ ownB c = true := by
  have key : ∀ n : Fin 256, (0 ≤ Lib.indexByte [48, 49, 50, 51, 52, 53, 54, 55, 56, 57, 45, 43, 46, 101, 69] (UInt8.ofNat n.val)) ↔ ownB (UInt8.ofNat n.val) = true := by decide
  have := key ⟨c.toNat, c.toNat_lt⟩
  simpa using this


theorem lexpush_own (b a f p : Nat) (l : List UInt8) (n : Num.St) (g : Option Nat) (tv : Value) (c : UInt8) (w : World) (h : LexAt w b a f (figV p)) (hF : NumF w p l n g tv) (ok : n.OkL l.length) (hl : l.length ≤ 100000) (hc : ownB c = true) (hbp : b ≠ p) (hbg : ∀ k, g = some k → k ≠ b) :
    Calls Tryz.prog 33 #[.pointer (some ⟨b, 0, none⟩), .int .u8 c.toNat] w fun e w' => ∃ k : Nat, e = .returned (.tuple #[.slice none 0 0, .int .i64 k]) ∧ LexAt w' b a f (figV p) ∧ Touch (p :: g.toList) w w' ∧
      (∀ n', Num.push n c.toNat = .ok n' → k = 0 ∧ ∃ g' tv', NumF w' p (l ++ [c]) n' g' tv' ∧ NewOr w g g') ∧ (∀ k', Num.push n c.toNat = .error k' → k = k') := by
  have h0 := h
  have hix := Tryz.strings_IndexByte ⟨#[48, 49, 50, 51, 52, 53, 54, 55, 56, 57, 45, 43, 46, 101, 69]⟩ (c.toNat : Int)
  have hio := own_ix c
  have hcc : ((c.toNat : Int)).toNat.toUInt8 = c := by simp
  have hdt : (⟨#[48, 49, 50, 51, 52, 53, 54, 55, 56, 57, 45, 43, 46, 101, 69]⟩ : ByteArray).data.toList = [48, 49, 50, 51, 52, 53, 54, 55, 56, 57, 45, 43, 46, 101, 69] := rfl
  simp only [hcc, hdt] at hix
  generalize Lib.indexByte [48, 49, 50, 51, 52, 53, 54, 55, 56, 57, 45, 43, 46, 101, 69] c = ix at hix hio
  clear hcc hdt
  have hge : 0 ≤ ix := hio.2 hc
  clear hio hc
  have hpu := fun w hF => push_any p l n g tv c w hF ok hl
  unfold LexAt at h
  have c0 := cell_at h 0
  have c1 := cell_at h 1
  have c2 := cell_at h 2
  have f0 := free_at h 0
  have f1 := free_at h 1
  have f2 := free_at h 2
  have lb := block_lt h
  simp at c0 c1 c2
  have ta1 := fun w => ta_fig1 w p
  have ta2 := fun w => ta_fig2 w p
  let kp_ : Exit → Act → World → Prop := bodyPost Tryz.prog Tryz.f33 (fun _ _ => True)
  refine calls_post Tryz.func33 rfl ?_
  intro Q_ hQ_
  simp only [Tryz.ntmps33, List.size_toArray, List.length_cons, List.length_nil, Nat.reduceAdd, Nat.reduceSub, Array.replicate_succ, Array.replicate_zero, List.push_toArray, List.append_toArray, List.nil_append, List.cons_append]
  go_wp2_with fail
  refine (hix _).mono ?_
  rintro e w1 ⟨rfl, rfl⟩
  try go_simp
  go_wp2_with fail
  refine (hpu _ (hF.keep ((Touch.refl [] _).alloc _) (by simp) (by simp))).mono ?_
  rintro e w2 hpost
  unfold PushPost at hpost
  have hbF : b ∉ p :: g.toList := fun q => by
    rw [List.mem_cons] at q
    rcases q with q | q
    · exact hbp q
    · cases g with
      | none => simp at q
      | some j => simp at q; exact hbg j rfl q.symm
  cases hpp : Num.push n c.toNat with
  | error k =>
    rw [hpp] at hpost
    replace hpp := Box.mk hpp
    obtain ⟨rfl, _, ht⟩ := hpost
    try go_simp
    go_wp2
    (try simp only [Exit.inBlock, Exit.then])
    refine hQ_.ret (results_tmp2 rfl _ _ _) rfl ?_
    exact ⟨k, rfl, ht.keep (alloc_old h0 _) (by simpa using hbp), ((Touch.refl _ _).alloc _).trans (ht.mono (fun y hy => .inl (by simp at hy; simp [hy]))), fun n' hn => (by rw [hpp.out] at hn; cases hn), fun k' hk => by rw [hpp.out] at hk; injection hk⟩
  | ok n1 =>
    rw [hpp] at hpost
    replace hpp := Box.mk hpp
    obtain ⟨rfl, ⟨g', tv', hF', hN⟩, ht⟩ := hpost
    try go_simp
    go_wp2
    (try simp only [Exit.inBlock, Exit.then])
    refine hQ_.ret (results_tmp2 rfl _ _ _) rfl ?_
    refine ⟨0, rfl, ht.keep (alloc_old h0 _) hbF, ((Touch.refl _ _).alloc _).trans ht, fun n' hn => ⟨rfl, g', tv', ?_, newOr_of hN (by simp)⟩, fun k' hk => by rw [hpp.out] at hk; cases hk⟩
    rw [hpp.out] at hn
    injection hn with hn
    rw [← hn]
    exact hF'

theorem lexpush_end (b a f p : Nat) (l : List UInt8) (n : Num.St) (g : Option Nat) (tv : Value) (c : UInt8) (N : Int) (w : World) (R : Ending → World → Prop) (h : LexAt w b a f (figV p)) (hF : NumF w p l n g tv) (ok : n.at_ ≤ 8) (hl : l.length ≤ 100000) (hc : ownB c = false) (hE : Num.pend n l = (N, 0))
    (hO : ∀ W ad g0, Touch [] w W → ToksAt W (.slice ad 1 1) [(4, f, a, N, [])] g0 → (∀ j, g0 = some j → w.heap.size ≤ j) → LexAt W b a f (figV p) → Calls Tryz.prog 54 #[.pointer (some ⟨b, 0, none⟩), .int .u8 c.toNat, .slice ad 1 1] W fun e w' => ∃ v0 v1, e = .returned (.tuple #[v0, v1]) ∧ R e w') :
    Calls Tryz.prog 33 #[.pointer (some ⟨b, 0, none⟩), .int .u8 c.toNat] w R := by
  have h0 := h
  have hix := Tryz.strings_IndexByte ⟨#[48, 49, 50, 51, 52, 53, 54, 55, 56, 57, 45, 43, 46, 101, 69]⟩ (c.toNat : Int)
  have hio := own_ix c
  have hcc : ((c.toNat : Int)).toNat.toUInt8 = c := by simp
  have hdt : (⟨#[48, 49, 50, 51, 52, 53, 54, 55, 56, 57, 45, 43, 46, 101, 69]⟩ : ByteArray).data.toList = [48, 49, 50, 51, 52, 53, 54, 55, 56, 57, 45, 43, 46, 101, 69] := rfl
  simp only [hcc, hdt] at hix
  generalize Lib.indexByte [48, 49, 50, 51, 52, 53, 54, 55, 56, 57, 45, 43, 46, 101, 69] c = ix at hix hio
  clear hcc hdt
  have hge : ¬ 0 ≤ ix := fun q => by rw [hio.1 q] at hc; cases hc
  clear hio hc
  have hen := fun w hF => numend_any p l n g tv w hF hl ok
  rw [hE] at hen
  clear hE
  unfold LexAt at h
  have c0 := cell_at h 0
  have c1 := cell_at h 1
  have c2 := cell_at h 2
  have f0 := free_at h 0
  have f1 := free_at h 1
  have f2 := free_at h 2
  have lb := block_lt h
  simp at c0 c1 c2
  have ta1 := fun w => ta_fig1 w p
  have ta2 := fun w => ta_fig2 w p
  let kp_ : Exit → Act → World → Prop := bodyPost Tryz.prog Tryz.f33 (fun _ _ => True)
  refine calls_post Tryz.func33 rfl ?_
  intro Q_ hQ_
  simp only [Tryz.ntmps33, List.size_toArray, List.length_cons, List.length_nil, Nat.reduceAdd, Nat.reduceSub, Array.replicate_succ, Array.replicate_zero, List.push_toArray, List.append_toArray, List.nil_append, List.cons_append]
  go_wp2_with fail
  refine (hix _).mono ?_
  rintro e w1 ⟨rfl, rfl⟩
  try go_simp
  go_wp2_with fail
  refine (hen _ (hF.keep ((Touch.refl [] _).alloc _) (by simp) (by simp))).mono ?_
  rintro e w2 ⟨rfl, ht2⟩
  try go_simp
  have h2 : LexAt w2 b a f (figV p) := ht2.keep (alloc_old h0 _) (by simp)
  have hT2 := ((Touch.refl [] _).alloc (.cells #[.pointer (some ⟨p, 0, none⟩)] 75)).trans ht2
  have h2' := h2
  unfold LexAt at h2'
  clear c0 c1 c2 f0 f1 f2 lb h ht2
  have c0 := cell_at h2' 0
  have c1 := cell_at h2' 1
  have c2 := cell_at h2' 2
  have f0 := free_at h2' 0
  have f1 := free_at h2' 1
  have f2 := free_at h2' 2
  have lb := block_lt h2'
  simp at c0 c1 c2
  go_wp2_with fail
  refine (token_any b a f 4 a _ _ h2).mono ?_
  rintro e w3 ⟨rfl, ht3⟩
  try go_simp
  have hT3 := hT2.trans ht3
  have h3 : LexAt w3 b a f (figV p) := ht3.keep h2 (by simp)
  clear c0 c1 c2 f0 f1 f2 lb h2 h2' hT2 ht3 hF h0
  go_wp2_with fail
  refine (hO _ _ (some (w3.heap.size + 1)) ?_ ?_ ?_ ?_).mono ?_
  · exact (hT3.alloc _).alloc _
  · have := slAt_new (w := w3.alloc (.cells #[.int .i64 4, .int .i64 f, .int .i64 a, .int .i64 N, .string (str [])] 41)) (E := 41) (c := #[.int .i64 4, .int .i64 f, .int .i64 a, .int .i64 N, .string (str [])]) (m := 1) (size := 5) rfl (by omega)
    simp at this
    exact this
  · intro j hj
    injection hj with hj
    have := hT3.size
    omega
  · exact alloc_old (alloc_old h3 _) _
  · rintro e w4 ⟨v0, v1, rfl, hR⟩
    try go_simp
    go_wp2
    (try simp only [Exit.inBlock, Exit.then])
    refine hQ_.ret (results_tmp2 rfl _ _ _) rfl ?_
    exact hR

theorem lexpush_bad (b a f p : Nat) (l : List UInt8) (n : Num.St) (g : Option Nat) (tv : Value) (c : UInt8) (N : Int) (w : World) (h : LexAt w b a f (figV p)) (hF : NumF w p l n g tv) (ok : n.at_ ≤ 8) (hl : l.length ≤ 100000) (hc : ownB c = false) (hE : Num.pend n l = (N, 7)) :
    Calls Tryz.prog 33 #[.pointer (some ⟨b, 0, none⟩), .int .u8 c.toNat] w fun e w' => e = .returned (.tuple #[.slice none 0 0, .int .i64 7]) ∧ Touch [] w w' := by
  have h0 := h
  have hix := Tryz.strings_IndexByte ⟨#[48, 49, 50, 51, 52, 53, 54, 55, 56, 57, 45, 43, 46, 101, 69]⟩ (c.toNat : Int)
  have hio := own_ix c
  have hcc : ((c.toNat : Int)).toNat.toUInt8 = c := by simp
  have hdt : (⟨#[48, 49, 50, 51, 52, 53, 54, 55, 56, 57, 45, 43, 46, 101, 69]⟩ : ByteArray).data.toList = [48, 49, 50, 51, 52, 53, 54, 55, 56, 57, 45, 43, 46, 101, 69] := rfl
  simp only [hcc, hdt] at hix
  generalize Lib.indexByte [48, 49, 50, 51, 52, 53, 54, 55, 56, 57, 45, 43, 46, 101, 69] c = ix at hix hio
  clear hcc hdt
  have hge : ¬ 0 ≤ ix := fun q => by rw [hio.1 q] at hc; cases hc
  clear hio hc
  have hen := fun w hF => numend_any p l n g tv w hF hl ok
  rw [hE] at hen
  clear hE
  unfold LexAt at h
  have c0 := cell_at h 0
  have c1 := cell_at h 1
  have c2 := cell_at h 2
  have f0 := free_at h 0
  have f1 := free_at h 1
  have f2 := free_at h 2
  have lb := block_lt h
  simp at c0 c1 c2
  have ta1 := fun w => ta_fig1 w p
  have ta2 := fun w => ta_fig2 w p
  let kp_ : Exit → Act → World → Prop := bodyPost Tryz.prog Tryz.f33 (fun _ _ => True)
  refine calls_post Tryz.func33 rfl ?_
  intro Q_ hQ_
  simp only [Tryz.ntmps33, List.size_toArray, List.length_cons, List.length_nil, Nat.reduceAdd, Nat.reduceSub, Array.replicate_succ, Array.replicate_zero, List.push_toArray, List.append_toArray, List.nil_append, List.cons_append]
  go_wp2_with fail
  refine (hix _).mono ?_
  rintro e w1 ⟨rfl, rfl⟩
  try go_simp
  go_wp2_with fail
  refine (hen _ (hF.keep ((Touch.refl [] _).alloc _) (by simp) (by simp))).mono ?_
  rintro e w2 ⟨rfl, ht2⟩
  try go_simp
  go_wp2
  (try simp only [Exit.inBlock, Exit.then])
  refine hQ_.ret (results_tmp2 rfl _ _ _) rfl ?_
  exact ⟨rfl, ((Touch.refl [] _).alloc _).trans ht2⟩

theorem lexpush_lit (b a f q : Nat) (t : List UInt8) (n k : Nat) (c : UInt8) (w : World) (h : LexAt w b a f (litV q)) (hL : LitAt w q t n k) (hbq : b ≠ q) (hc : t[n]? = some c) (hn : n + 1 < t.length) (ht : t.length ≤ 10) :
    Calls Tryz.prog 33 #[.pointer (some ⟨b, 0, none⟩), .int .u8 c.toNat] w fun e w' => e = .returned (.tuple #[.slice none 0 0, .int .i64 0]) ∧ LexAt w' b a f (litV q) ∧ LitAt w' q t (n + 1) k ∧ Touch [q] w w' := by
  have h0 := h
  have hL0 := hL
  unfold LexAt at h
  have c0 := cell_at h 0
  have c1 := cell_at h 1
  have c2 := cell_at h 2
  have f0 := free_at h 0
  have f1 := free_at h 1
  have f2 := free_at h 2
  have lb := block_lt h
  simp at c0 c1 c2
  unfold LitAt at hL
  have d0 := cell_at hL 0
  have d1 := cell_at hL 1
  have d2 := cell_at hL 2
  have e0 := free_at hL 0
  have e1 := free_at hL 1
  have e2 := free_at hL 2
  have ld := block_lt hL
  simp at d0 d1 d2
  have st := str_size t
  have ta1 := fun w => ta_lit1 w q
  have i1 : ∀ w, (Instr.index 9 (.string (str t)) (.int .i64 (n : Int))).run Tryz.prog w = .ok (.int .u8 c.toNat) w := fun w => run_ix Tryz.underlying9 t .i64 n c hc w
  have tc : ((c.toNat : Int) != (c.toNat : Int)) = false := by simp
  have tn : (((n : Int) + 1) == (t.length : Int)) = false := by simp; omega
  clear hc
  let kp_ : Exit → Act → World → Prop := bodyPost Tryz.prog Tryz.f33 (fun _ _ => True)
  refine calls_post Tryz.func33 rfl ?_
  intro Q_ hQ_
  simp only [Tryz.ntmps33, List.size_toArray, List.length_cons, List.length_nil, Nat.reduceAdd, Nat.reduceSub, Array.replicate_succ, Array.replicate_zero, List.push_toArray, List.append_toArray, List.nil_append, List.cons_append]
  go_upto_region 4 with (fail)
  go_quiet (fail)
  go_upto_region 7 with (fail)
  go_quiet (fail)
  go_wp2
  (try simp only [Exit.inBlock, Exit.then])
  refine hQ_.ret (results_tmp2 rfl _ _ _) rfl ?_
  refine ⟨rfl, drewN_heap (set_other (drewN_heap h0 _) (show q ≠ b from hbq.symm) _) _, ?_, (((Touch.refl _ _).drewN _).setCell (by simp) _).drewN _⟩
  exact drewN_heap (set_same (drewN_heap hL0 _) 1 (.int .i64 ((n : Int) + 1))) _

/-- Push is push, and the place -/
theorem lexPush_ok (b a f : Nat) (x : Int) (w : World) (R : Value → Value → World → Prop) (ha : a ≤ 1000000000)
    (hP : Calls Tryz.prog 33 #[.pointer (some ⟨b, 0, none⟩), .int .u8 x] w fun e w' => ∃ v0 v, e = .returned (.tuple #[v0, .int .i64 0]) ∧ LexAt w' b a f v ∧ R v0 v w') :
    Calls Tryz.prog 17 #[.pointer (some ⟨b, 0, none⟩), .int .u8 x] w fun e w' => ∃ v0 v w1, e = .returned (.tuple #[v0, .int .i64 0]) ∧ R v0 v w1 ∧ LexAt w' b (a + 1) f v ∧ w' = w1.setCell ⟨b, 0, none⟩ (.int .i64 ((a : Int) + 1)) := by
  let kp_ : Exit → Act → World → Prop := bodyPost Tryz.prog Tryz.f17 (fun _ _ => True)
  refine calls_post Tryz.func17 rfl ?_
  intro Q_ hQ_
  simp only [Tryz.ntmps17, List.size_toArray, List.length_cons, List.length_nil, Nat.reduceAdd, Nat.reduceSub, Array.replicate_succ, Array.replicate_zero, List.push_toArray, List.append_toArray, List.nil_append, List.cons_append]
  go_wp2_with fail
  refine hP.mono ?_
  rintro e w1 ⟨v0, v, rfl, h, hR⟩
  try go_simp
  have h0 := h
  unfold LexAt at h
  have c0 := cell_at h 0
  have c1 := cell_at h 1
  have c2 := cell_at h 2
  have f0 := free_at h 0
  have f1 := free_at h 1
  have f2 := free_at h 2
  have lb := block_lt h
  simp at c0 c1 c2
  go_wp2
  (try simp only [Exit.inBlock, Exit.then])
  refine hQ_.ret (results_tmp2 rfl _ _ _) rfl ?_
  exact ⟨v0, v, w1, rfl, hR, set_same h0 0 _, rfl⟩
theorem lexPush_err (b : Nat) (k : Nat) (x : Int) (v0 : Value) (w : World) (R : World → Prop) (hk : k ≠ 0)
    (hP : Calls Tryz.prog 33 #[.pointer (some ⟨b, 0, none⟩), .int .u8 x] w fun e w' => e = .returned (.tuple #[v0, .int .i64 k]) ∧ R w') :
    Calls Tryz.prog 17 #[.pointer (some ⟨b, 0, none⟩), .int .u8 x] w fun e w' => e = .returned (.tuple #[.slice none 0 0, .int .i64 k]) ∧ R w' := by
  have hk2 : ((k : Int) != 0) = true := by simp; exact hk
  clear hk
  let kp_ : Exit → Act → World → Prop := bodyPost Tryz.prog Tryz.f17 (fun _ _ => True)
  refine calls_post Tryz.func17 rfl ?_
  intro Q_ hQ_
  simp only [Tryz.ntmps17, List.size_toArray, List.length_cons, List.length_nil, Nat.reduceAdd, Nat.reduceSub, Array.replicate_succ, Array.replicate_zero, List.push_toArray, List.append_toArray, List.nil_append, List.cons_append]
  go_wp2_with fail
  refine hP.mono ?_
  rintro e w1 ⟨rfl, hR⟩
  try go_simp
  go_wp2
  (try simp only [Exit.inBlock, Exit.then])
  refine hQ_.ret (results_tmp2 rfl _ _ _) rfl ?_
  exact ⟨rfl, hR⟩
theorem lexend_nil (b a f : Nat) (w : World) (h : LexAt w b a f .nilIface) : Calls Tryz.prog 20 #[.pointer (some ⟨b, 0, none⟩)] w fun e w' => e = .returned (.tuple #[.slice none 0 0, .int .i64 0]) ∧ w = w' := by
  unfold LexAt at h
  have c0 := cell_at h 0
  have c1 := cell_at h 1
  have c2 := cell_at h 2
  have f0 := free_at h 0
  have f1 := free_at h 1
  have f2 := free_at h 2
  have lb := block_lt h
  simp at c0 c1 c2
  let kp_ : Exit → Act → World → Prop := bodyPost Tryz.prog Tryz.f20 (fun _ _ => True)
  refine calls_post Tryz.func20 rfl ?_
  intro Q_ hQ_
  simp only [Tryz.ntmps20, List.size_toArray, List.length_cons, List.length_nil, Nat.reduceAdd, Nat.reduceSub, Array.replicate_succ, Array.replicate_zero, List.push_toArray, List.append_toArray, List.nil_append, List.cons_append]
  go_wp2
  (try simp only [Exit.inBlock, Exit.then])
  refine hQ_.ret (results_tmp2 rfl _ _ _) rfl ?_
  exact ⟨rfl, rfl⟩
theorem lexend_lit (b a f q : Nat) (w : World) (h : LexAt w b a f (litV q)) : Calls Tryz.prog 20 #[.pointer (some ⟨b, 0, none⟩)] w fun e w' => e = .returned (.tuple #[.slice none 0 0, .int .i64 3]) ∧ w = w' := by
  have ta : ∀ w, (Instr.typeAssert (litV q) 70 75 true).run Tryz.prog w = .ok (.tuple #[.agg #[.pointer none], .bool false]) w := fun w => by kernel_rfl
  unfold LexAt at h
  have c0 := cell_at h 0
  have c1 := cell_at h 1
  have c2 := cell_at h 2
  have f0 := free_at h 0
  have f1 := free_at h 1
  have f2 := free_at h 2
  have lb := block_lt h
  simp at c0 c1 c2
  let kp_ : Exit → Act → World → Prop := bodyPost Tryz.prog Tryz.f20 (fun _ _ => True)
  refine calls_post Tryz.func20 rfl ?_
  intro Q_ hQ_
  simp only [Tryz.ntmps20, List.size_toArray, List.length_cons, List.length_nil, Nat.reduceAdd, Nat.reduceSub, Array.replicate_succ, Array.replicate_zero, List.push_toArray, List.append_toArray, List.nil_append, List.cons_append]
  go_wp2
  (try simp only [Exit.inBlock, Exit.then])
  refine hQ_.ret (results_tmp2 rfl _ _ _) rfl ?_
  exact ⟨rfl, rfl⟩
end Go.Proofs.YthdncmagfgoboaaGreatDoor
