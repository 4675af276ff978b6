/- One of the texts that lead to the theorem lexPlays.proved: the conditions stand in each theorem. -/
import Derived.Test.YthdncmagfgoboaaGreatDoorP28
import Derived.Test.YthdncmagfgoboaaGreatDoorP16
import Derived.Test.YthdncmagfgoboaaGreatDoorP5
import Derived.Test.YthdncmagfgoboaaGreatDoorP1
import Derived.BigQuiet
import Derived.Lib.SlBytesConst
import Derived.Laws.StructEq
set_option linter.unusedSimpArgs false
set_option linter.unusedVariables false
section
namespace Go.Proofs.YthdncmagfgoboaaGreatDoor
open Go.RowKit
set_option maxRecDepth 100000
set_option maxHeartbeats 8000000
theorem eG : fZ Tryz.prog 32 41 (tokV 0 0 0 0 []) 5 48 := by
 refine ⟨Tryz.underlying32, by rfl, by decide, by decide, ?_⟩
 exact info_parts (by kernel_rfl)
def dV (w : World) (q : Nat) (t : List UInt8) (n k : Nat) : Prop := w.heap[q]? = some (.cells #[.string (str t), .int .i64 n, .int .i64 k] 104 (0, 0))
def bZ (k : Nat) : List UInt8 := if k = 1 then [110, 117, 108, 108] else if k = 2 then [116, 114, 117, 101] else [102, 97, 108, 115, 101]
def cB (l : List (Nat × Nat × Nat × Int × List UInt8)) : List Value := l.flatMap fun t => [.int .i64 t.1, .int .i64 t.2.1, .int .i64 t.2.2.1, .int .i64 t.2.2.2.1, .string (str t.2.2.2.2)]
def cV (w : World) (v : Value) (l : List (Nat × Nat × Nat × Int × List UInt8)) (g : Option Nat) : Prop := SlAt w 41 5 v l.length (cB l) g
theorem fK {w : World} {o : Obj} {k : Nat} (hk : k = w.heap.size) : (w.alloc o).heap[k]? = some o := by
 subst hk
 exact aZ w o
theorem jJ (b a f : Nat) (v : Value) (x : Int) (ov : Value) (w : World) (h : bB w b a f v) (hk : bN x = 0) (hb : cQ x = false) :
 Calls Tryz.prog 54 #[.pointer (some ⟨b, 0, none⟩), .int .u8 x, ov] w fun e w' => e = .returned (.tuple #[.slice none 0 0, .int .i64 2]) ∧ w = w' := by
 have hfi := fun w => eB x w
 have hbl := fun w => eC x w
 rw [hk] at hfi
 unfold bB at h
 have ⟨c0,c1,c2⟩ := cs3 h
 have ⟨f0,f1,f2⟩ := fs3 h
 have lb := aB h
 try simp at c0 c1 c2
 refine aA Tryz.func54 rfl ?_
 intro Q_ hQ_
 simp only [Tryz.ntmps54, ents_, Nat.reduceAdd, Nat.reduceSub]
 go_wp2_with fail
 refine (hfi _).mono ?_
 rintro e w1 ⟨rfl, rfl⟩
 try go_simp
 rw [hb] at hbl
 go_wp2_with fail
 refine (hbl _).mono ?_
 rintro e w1 ⟨rfl, rfl⟩
 try go_simp
 go_wp2
 refine hQ_.ret (results_tmp2 rfl _ _ _) rfl ?_
 exact ⟨rfl, rfl⟩
theorem mB (b a f : Nat) (v : Value) (x : Int) (A : Option Addr) (n C : Nat) (w : World) (h : bB w b a f v) (hk : bN x = 0) (hb : cQ x = true) :
 Calls Tryz.prog 54 #[.pointer (some ⟨b, 0, none⟩), .int .u8 x, .slice A n C] w fun e w' => e = .returned (.tuple #[.slice A n C, .int .i64 0]) ∧ bB w' b a a .nilIface ∧ Touch [b] w w' := by
 have h0 := h
 have hfi := fun w => eB x w
 have hbl := fun w => eC x w
 rw [hk] at hfi
 unfold bB at h
 have ⟨c0,c1,c2⟩ := cs3 h
 have ⟨f0,f1,f2⟩ := fs3 h
 have lb := aB h
 try simp at c0 c1 c2
 refine aA Tryz.func54 rfl ?_
 intro Q_ hQ_
 simp only [Tryz.ntmps54, ents_, Nat.reduceAdd, Nat.reduceSub]
 go_wp2_with fail
 refine (hfi _).mono ?_
 rintro e w1 ⟨rfl, rfl⟩
 try go_simp
 rw [hb] at hbl
 go_wp2_with fail
 refine (hbl _).mono ?_
 rintro e w1 ⟨rfl, rfl⟩
 try go_simp
 go_wp2
 refine hQ_.ret (results_tmp2 rfl _ _ _) rfl ?_
 exact ⟨rfl, aF (aF h0 2 _) 1 _, ((Touch.refl _ _).setCell (by simp) _).setCell (by simp) _⟩
theorem jH (b a f : Nat) (v : Value) (x : Int) (k : Nat) (A : Option Addr) (n C : Nat) (w : World) (h : bB w b a f v) (hk : bN x = k) (hk3 : k = 1 ∨ k = 2 ∨ k = 3) :
 Calls Tryz.prog 54 #[.pointer (some ⟨b, 0, none⟩), .int .u8 x, .slice A n C] w fun e w' => e = .returned (.tuple #[.slice A n C, .int .i64 0]) ∧ (∃ q, bB w' b a a (litV q) ∧ dV w' q (bZ k) 1 k ∧ w.heap.size ≤ q) ∧ Touch [b] w w' := by
 have h0 := h
 have hl := fun w => oN k hk3 w
 have hfi := fun w => eB x w
 have hbl := fun w => eC x w
 rw [hk] at hfi
 unfold bB at h
 have ⟨c0,c1,c2⟩ := cs3 h
 have ⟨f0,f1,f2⟩ := fs3 h
 have lb := aB h
 try simp at c0 c1 c2
 refine aA Tryz.func54 rfl ?_
 intro Q_ hQ_
 simp only [Tryz.ntmps54, ents_, Nat.reduceAdd, Nat.reduceSub]
 go_wp2_with fail
 refine (hfi _).mono ?_
 rintro e w1 ⟨rfl, rfl⟩
 try go_simp
 rcases hk3 with rfl | rfl | rfl
 all_goals
  go_wp2_with fail
  refine (hl _).mono ?_
  rintro e w1 ⟨rfl, rfl⟩
  try go_simp
  go_wp2
  refine hQ_.ret (results_tmp2 rfl _ _ _) rfl ?_
  refine ⟨rfl, ⟨w.heap.size, aW (aF (aF (aF h0 2 _) 2 _) 1 _) _, fK (by simp), Nat.le_refl _⟩, ?_⟩
  exact ((((Touch.refl _ _).setCell (by simp) _).setCell (by simp) _).setCell (by simp) _).alloc _
theorem lY (l : List (Nat × Nat × Nat × Int × List UInt8)) (k a e : Nat) (n : Int) (s : List UInt8) : cB (l ++ [(k, a, e, n, s)]) = cB l ++ [.int .i64 k, .int .i64 a, .int .i64 e, .int .i64 n, .string (str s)] := by
 unfold cB
 rw [List.flatMap_append]
 rfl
theorem jG (b a f : Nat) (v : Value) (x : Int) (k : Nat) (l : List (Nat × Nat × Nat × Int × List UInt8)) (A : Option Addr) (C : Nat) (g : Option Nat) (w : World) (h : bB w b a f v) (hs : cV w (.slice A l.length C) l g) (hgb : ∀ j, g = some j → j ≠ b) (hll : l.length ≤ 100) (hk : bN x = k) (hk6 : 6 ≤ k) (hk11 : k ≤ 11) (ha : a ≤ 1000000000) :
 Calls Tryz.prog 54 #[.pointer (some ⟨b, 0, none⟩), .int .u8 x, .slice A l.length C] w fun e w' => (∃ ad c g', e = .returned (.tuple #[.slice ad (l.length + 1) c, .int .i64 0]) ∧ cV w' (.slice ad (l.length + 1) c) (l ++ [(k, a, a + 1, 0, [])]) g' ∧ (∀ j, g' = some j → g = some j ∨ w.heap.size ≤ j)) ∧ bB w' b a a .nilIface ∧ Touch (b :: g.toList) w w' := by
 have h0 := h
 have t0 : ((k : Int) == 0) = false := by simp; omega
 have t1 : ((k : Int) == 1) = false := by simp; omega
 have t2 : ((k : Int) == 2) = false := by simp; omega
 have t3 : ((k : Int) == 3) = false := by simp; omega
 have t4 : ((k : Int) == 4) = false := by simp; omega
 have t5 : ((k : Int) == 5) = false := by simp; omega
 have hgm : b ∉ g.toList := fun q => by
  cases g with
  | none => simp at q
  | some j => simp at q; exact hgb j rfl q.symm
 have hgs : ∀ j, g = some j → j ∉ [b] := fun j hj q => hgb j hj (List.mem_singleton.1 q)
 unfold cV at hs
 have hfi := fun w => eB x w
 have hbl := fun w => eC x w
 rw [hk] at hfi
 unfold bB at h
 have ⟨c0,c1,c2⟩ := cs3 h
 have ⟨f0,f1,f2⟩ := fs3 h
 have lb := aB h
 try simp at c0 c1 c2
 refine aA Tryz.func54 rfl ?_
 intro Q_ hQ_
 simp only [Tryz.ntmps54, ents_, Nat.reduceAdd, Nat.reduceSub]
 go_wp2_with fail
 refine (hfi _).mono ?_
 rintro e w1 ⟨rfl, rfl⟩
 try go_simp
 go_wp2_with (at_builtin; refine aJ eG rfl (.tmp 28) (.tmp 34) rfl rfl (hs.keep (((Touch.refl [b] _).setCell (by simp) _).alloc _) hgs) rfl (pJ (f := (0, 0)) (c := #[.int .i64 k, .int .i64 a, .int .i64 ((a : Int) + 1), .int .i64 0, .string ⟨#[]⟩]) (fK (by simp)) rfl (by simp [Value.oneCell'])) (by omega) ?_; intro ad4 c4 w4 g4 hs4 ht4 hn4; have h4 := ht4.keep (aW (aF h0 2 .nilIface) _) hgm; have q0 := aN h4 0; have q1 := aN h4 1; have q2 := aN h4 2; have p1 := aQ h4 1; have pl := aB h4; simp at q0 q1 q2)
 refine hQ_.ret (results_tmp2 rfl _ _ _) rfl ?_
 have hg4 : ∀ j, g4 = some j → g = some j ∨ w.heap.size ≤ j := fun j hj => by
  rcases hn4 with q | ⟨i, q1, q2⟩
  · exact .inl (q ▸ hj)
  · rw [hj] at q1; injection q1 with q1; subst q1; simp at q2; exact .inr (by omega)
 refine ⟨⟨ad4, c4, g4, rfl, ?_, hg4⟩, aF h4 1 _, ?_⟩
 · unfold cV
   rw [List.length_append, List.length_singleton, lY]
   refine SlAt.keep (F := [b]) ?_ ((Touch.refl [b] _).setCell (by simp) _) (fun j hj q => ?_)
   · rw [Int.natCast_add]; exact hs4
   · rcases hg4 j hj with e | e
     · exact hgs j e q
     · have := List.mem_singleton.1 q; omega
 · refine Touch.setCell ?_ (by simp) _
   exact Touch.step (((Touch.refl _ _).setCell (by simp) _).alloc _) ht4 (fun y hy => .inl (List.mem_cons_of_mem _ hy))
theorem jI (b a f : Nat) (v : Value) (c : UInt8) (n' : Num.St) (A : Option Addr) (n C : Nat) (w : World) (h : bB w b a f v) (hk : bN c.toNat = 4) (hp : Num.push Num.St.start c.toNat = .ok n') :
 Calls Tryz.prog 54 #[.pointer (some ⟨b, 0, none⟩), .int .u8 c.toNat, .slice A n C] w fun e w' => e = .returned (.tuple #[.slice A n C, .int .i64 0]) ∧ (∃ p g tv, bB w' b a a (figV p) ∧ NumF w' p [c] n' g tv ∧ w.heap.size ≤ p ∧ (∀ k, g = some k → w.heap.size ≤ k)) ∧ Touch [b] w w' := by
 have h0 := h
 obtain ⟨x, hx⟩ : ∃ x : Int, x = (c.toNat : Int) := ⟨_, rfl⟩
 have hpu := fun p w hF => lG p [] Num.St.start none (.slice none 0 0) c w hF Num.start_ok (by simp)
 rw [← hx] at hk hpu ⊢
 replace hp := Box.mk hp
 clear hx
 have hfi := fun w => eB x w
 have hbl := fun w => eC x w
 rw [hk] at hfi
 unfold bB at h
 have ⟨c0,c1,c2⟩ := cs3 h
 have ⟨f0,f1,f2⟩ := fs3 h
 have lb := aB h
 try simp at c0 c1 c2
 refine aA Tryz.func54 rfl ?_
 intro Q_ hQ_
 simp only [Tryz.ntmps54, ents_, Nat.reduceAdd, Nat.reduceSub]
 go_wp2_with fail
 refine (hfi _).mono ?_
 rintro e w1 ⟨rfl, rfl⟩
 try go_simp
 go_wp2_with fail
 refine (sD _).mono ?_
 rintro e w1 ⟨⟨p, rfl, hp1, hA⟩, ht1⟩
 try go_simp
 go_wp2_with fail
 refine (hpu p _ hA).mono ?_
 rintro e w2 hpost
 unfold dS at hpost
 rw [hp.out] at hpost
 obtain ⟨rfl, ⟨g, tv, hF, hN⟩, ht2⟩ := hpost
 try go_simp
 have hbp : b < p := by simp at hp1; omega
 have h1 : w2.heap[b]? = some (.cells #[.int .i64 a, .int .i64 f, .nilIface] 72 (0, 0)) := ht2.keep (ht1.keep (aF h0 2 _) (by simp)) (by simp; omega)
 clear c0 c1 c2 f0 f1 f2 lb
 have ⟨c0,c1,c2⟩ := cs3 h1
 have ⟨f0,f1,f2⟩ := fs3 h1
 have lb := aB h1
 try simp at c0 c1 c2
 go_wp2
 refine hQ_.ret (results_tmp2 rfl _ _ _) rfl ?_
 have hgw : ∀ k, g = some k → w.heap.size ≤ k := fun k hk => by
  rcases hN with q | ⟨j, q1, q2⟩
  · rw [hk] at q; cases q
  · rw [hk] at q1; injection q1 with q1; subst q1; have := ht1.size; simp at this; omega
 have hwp : w.heap.size ≤ p := by simpa using hp1
 have hbl := aB h0
 refine ⟨rfl, ⟨p, g, tv, aF (aF h1 2 _) 1 _, ?_, hwp, hgw⟩, ?_⟩
 · refine hF.keep (F := [b]) (((Touch.refl [b] _).setCell (by simp) _).setCell (by simp) _) (by simp; omega) (fun k hk q => ?_)
   have := hgw k hk
   have := List.mem_singleton.1 q
   omega
 · refine (Touch.setCell (Touch.setCell ?_ (by simp) _) (by simp) _)
   refine Touch.step (F := [b]) (Touch.trans ((Touch.refl [b] _).setCell (by simp) _) (ht1.mono (by simp))) ht2 (fun y hy => .inr ?_)
   simp at hy
   omega
end Go.Proofs.YthdncmagfgoboaaGreatDoor
end

section
namespace Go.Proofs.YthdncmagfgoboaaGreatDoor
open Go.RowKit
set_option maxRecDepth 100000
set_option maxHeartbeats 8000000
def ownB (c : UInt8) : Bool := [48, 49, 50, 51, 52, 53, 54, 55, 56, 57, 45, 43, 46, 101, 69].contains c
section
variable (w : World) (p : Nat)
theorem ta_nil1 : (Instr.typeAssert .nilIface 70 102 true).run Tryz.prog w = .ok (.tuple #[.pointer none, .bool false]) w := by kernel_rfl
theorem ta_nil2 : (Instr.typeAssert .nilIface 70 75 true).run Tryz.prog w = .ok (.tuple #[.agg #[.pointer none], .bool false]) w := by kernel_rfl
theorem sP : (Instr.typeAssert .nilIface 70 84 true).run Tryz.prog w = .ok (.tuple #[.agg #[.pointer none], .bool false]) w := by kernel_rfl
theorem hG : (Instr.typeAssert (figV p) 70 102 true).run Tryz.prog w = .ok (.tuple #[.pointer none, .bool false]) w := by kernel_rfl
theorem gC : (Instr.typeAssert (figV p) 70 75 true).run Tryz.prog w = .ok (.tuple #[.agg #[.pointer (some ⟨p, 0, none⟩)], .bool true]) w := by kernel_rfl
theorem nQ : (Instr.typeAssert (litV p) 70 102 true).run Tryz.prog w = .ok (.tuple #[.pointer (some ⟨p, 0, none⟩), .bool true]) w := by kernel_rfl
end
theorem eR (b a f : Nat) (x : Int) (w : World) (R : Ending → World → Prop) (h : bB w b a f .nilIface)
 (hO : Calls Tryz.prog 54 #[.pointer (some ⟨b, 0, none⟩), .int .u8 x, .slice none 0 0] w fun e w' => ∃ v0 v1, e = .returned (.tuple #[v0, v1]) ∧ R e w') :
 Calls Tryz.prog 33 #[.pointer (some ⟨b, 0, none⟩), .int .u8 x] w R := by
 unfold bB at h
 have ⟨c0,c1,c2⟩ := cs3 h
 have ⟨f0,f1,f2⟩ := fs3 h
 have lb := aB h
 try simp at c0 c1 c2
 have ta1 := ta_nil1
 have ta2 := ta_nil2
 have ta3 := sP
 refine aA Tryz.func33 rfl ?_
 intro Q_ hQ_
 simp only [Tryz.ntmps33, ents_, Nat.reduceAdd, Nat.reduceSub]
 go_wp2_with fail
 refine hO.mono ?_
 rintro e w1 ⟨v0, v1, rfl, hR⟩
 try go_simp
 go_wp2
 refine hQ_.ret (results_tmp2 rfl _ _ _) rfl ?_
 exact hR
theorem lH (c : UInt8) : (0 ≤ Lib.indexByte [48, 49, 50, 51, 52, 53, 54, 55, 56, 57, 45, 43, 46, 101, 69] c) ↔ ownB c = true := by
 have key : ∀ n : Fin 256, (0 ≤ Lib.indexByte [48, 49, 50, 51, 52, 53, 54, 55, 56, 57, 45, 43, 46, 101, 69] (UInt8.ofNat n.val)) ↔ ownB (UInt8.ofNat n.val) = true := by decide
 have := key ⟨c.toNat, c.toNat_lt⟩
 simpa using this
theorem jM (b a f p : Nat) (l : List UInt8) (n : Num.St) (g : Option Nat) (tv : Value) (c : UInt8) (w : World) (h : bB w b a f (figV p)) (hF : NumF w p l n g tv) (ok : n.OkL l.length) (hl : l.length ≤ 100000) (hc : ownB c = true) (hbp : b ≠ p) (hbg : ∀ k, g = some k → k ≠ b) :
 Calls Tryz.prog 33 #[.pointer (some ⟨b, 0, none⟩), .int .u8 c.toNat] w fun e w' => ∃ k : Nat, e = .returned (.tuple #[.slice none 0 0, .int .i64 k]) ∧ bB w' b a f (figV p) ∧ Touch (p :: g.toList) w w' ∧
  (∀ n', Num.push n c.toNat = .ok n' → k = 0 ∧ ∃ g' tv', NumF w' p (l ++ [c]) n' g' tv' ∧ cK w g g') ∧ (∀ k', Num.push n c.toNat = .error k' → k = k') := by
 have h0 := h
 have hix := Tryz.strings_IndexByte ⟨#[48, 49, 50, 51, 52, 53, 54, 55, 56, 57, 45, 43, 46, 101, 69]⟩ (c.toNat : Int)
 have hio := lH c
 have hcc : ((c.toNat : Int)).toNat.toUInt8 = c := by simp
 have hdt : (⟨#[48, 49, 50, 51, 52, 53, 54, 55, 56, 57, 45, 43, 46, 101, 69]⟩ : ByteArray).data.toList = [48, 49, 50, 51, 52, 53, 54, 55, 56, 57, 45, 43, 46, 101, 69] := rfl
 simp only [hcc, hdt] at hix
 generalize Lib.indexByte [48, 49, 50, 51, 52, 53, 54, 55, 56, 57, 45, 43, 46, 101, 69] c = ix at hix hio
 clear hcc hdt
 have hge : 0 ≤ ix := hio.2 hc
 clear hio hc
 have hpu := fun w hF => lG p l n g tv c w hF ok hl
 unfold bB at h
 have ⟨c0,c1,c2⟩ := cs3 h
 have ⟨f0,f1,f2⟩ := fs3 h
 have lb := aB h
 try simp at c0 c1 c2
 have ta1 := fun w => hG w p
 have ta2 := fun w => gC w p
 refine aA Tryz.func33 rfl ?_
 intro Q_ hQ_
 simp only [Tryz.ntmps33, ents_, Nat.reduceAdd, Nat.reduceSub]
 go_wp2_with fail
 refine (hix _).mono ?_
 rintro e w1 ⟨rfl, rfl⟩
 try go_simp
 go_wp2_with fail
 refine (hpu _ (hF.keep ((Touch.refl [] _).alloc _) (by simp) (by simp))).mono ?_
 rintro e w2 hpost
 unfold dS at hpost
 have hbF : b ∉ p :: g.toList := fun q => by
  rw [List.mem_cons] at q
  rcases q with q | q
  · exact hbp q
  · cases g with
    | none => simp at q
    | some j => simp at q; exact hbg j rfl q.symm
 cases hpp : Num.push n c.toNat with
 | error k =>
  rw [hpp] at hpost
  replace hpp := Box.mk hpp
  obtain ⟨rfl, _, ht⟩ := hpost
  try go_simp
  go_wp2
  refine hQ_.ret (results_tmp2 rfl _ _ _) rfl ?_
  exact ⟨k, rfl, ht.keep (aW h0 _) (by simpa using hbp), ((Touch.refl _ _).alloc _).trans (ht.mono (fun y hy => .inl (by simp at hy; simp [hy]))), fun n' hn => (by rw [hpp.out] at hn; cases hn), fun k' hk => by rw [hpp.out] at hk; injection hk⟩
 | ok n1 =>
  rw [hpp] at hpost
  replace hpp := Box.mk hpp
  obtain ⟨rfl, ⟨g', tv', hF', hN⟩, ht⟩ := hpost
  try go_simp
  go_wp2
  refine hQ_.ret (results_tmp2 rfl _ _ _) rfl ?_
  refine ⟨0, rfl, ht.keep (aW h0 _) hbF, ((Touch.refl _ _).alloc _).trans ht, fun n' hn => ⟨rfl, g', tv', ?_, cE hN (by simp)⟩, fun k' hk => by rw [hpp.out] at hk; cases hk⟩
  rw [hpp.out] at hn
  injection hn with hn
  rw [← hn]
  exact hF'
theorem fW (b a f p : Nat) (l : List UInt8) (n : Num.St) (g : Option Nat) (tv : Value) (c : UInt8) (N : Int) (w : World) (R : Ending → World → Prop) (h : bB w b a f (figV p)) (hF : NumF w p l n g tv) (ok : n.at_ ≤ 8) (hl : l.length ≤ 100000) (hc : ownB c = false) (hE : Num.pend n l = (N, 0))
 (hO : ∀ W ad g0, Touch [] w W → cV W (.slice ad 1 1) [(4, f, a, N, [])] g0 → (∀ j, g0 = some j → w.heap.size ≤ j) → bB W b a f (figV p) → Calls Tryz.prog 54 #[.pointer (some ⟨b, 0, none⟩), .int .u8 c.toNat, .slice ad 1 1] W fun e w' => ∃ v0 v1, e = .returned (.tuple #[v0, v1]) ∧ R e w') :
 Calls Tryz.prog 33 #[.pointer (some ⟨b, 0, none⟩), .int .u8 c.toNat] w R := by
 have h0 := h
 have hix := Tryz.strings_IndexByte ⟨#[48, 49, 50, 51, 52, 53, 54, 55, 56, 57, 45, 43, 46, 101, 69]⟩ (c.toNat : Int)
 have hio := lH c
 have hcc : ((c.toNat : Int)).toNat.toUInt8 = c := by simp
 have hdt : (⟨#[48, 49, 50, 51, 52, 53, 54, 55, 56, 57, 45, 43, 46, 101, 69]⟩ : ByteArray).data.toList = [48, 49, 50, 51, 52, 53, 54, 55, 56, 57, 45, 43, 46, 101, 69] := rfl
 simp only [hcc, hdt] at hix
 generalize Lib.indexByte [48, 49, 50, 51, 52, 53, 54, 55, 56, 57, 45, 43, 46, 101, 69] c = ix at hix hio
 clear hcc hdt
 have hge : ¬ 0 ≤ ix := fun q => by rw [hio.1 q] at hc; cases hc
 clear hio hc
 have hen := fun w hF => fF p l n g tv w hF hl ok
 rw [hE] at hen
 clear hE
 unfold bB at h
 have ⟨c0,c1,c2⟩ := cs3 h
 have ⟨f0,f1,f2⟩ := fs3 h
 have lb := aB h
 try simp at c0 c1 c2
 have ta1 := fun w => hG w p
 have ta2 := fun w => gC w p
 refine aA Tryz.func33 rfl ?_
 intro Q_ hQ_
 simp only [Tryz.ntmps33, ents_, Nat.reduceAdd, Nat.reduceSub]
 go_wp2_with fail
 refine (hix _).mono ?_
 rintro e w1 ⟨rfl, rfl⟩
 try go_simp
 go_wp2_with fail
 refine (hen _ (hF.keep ((Touch.refl [] _).alloc _) (by simp) (by simp))).mono ?_
 rintro e w2 ⟨rfl, ht2⟩
 try go_simp
 have h2 : bB w2 b a f (figV p) := ht2.keep (aW h0 _) (by simp)
 have hT2 := ((Touch.refl [] _).alloc (.cells #[.pointer (some ⟨p, 0, none⟩)] 75)).trans ht2
 have h2' := h2
 unfold bB at h2'
 clear c0 c1 c2 f0 f1 f2 lb h ht2
 have c0 := aN h2' 0
 have c1 := aN h2' 1
 have c2 := aN h2' 2
 have f0 := aQ h2' 0
 have f1 := aQ h2' 1
 have f2 := aQ h2' 2
 have lb := aB h2'
 simp at c0 c1 c2
 go_wp2_with fail
 refine (gA b a f 4 a _ _ h2).mono ?_
 rintro e w3 ⟨rfl, ht3⟩
 try go_simp
 have hT3 := hT2.trans ht3
 have h3 : bB w3 b a f (figV p) := ht3.keep h2 (by simp)
 clear c0 c1 c2 f0 f1 f2 lb h2 h2' hT2 ht3 hF h0
 go_wp2_with fail
 refine (hO _ _ (some (w3.heap.size + 1)) ?_ ?_ ?_ ?_).mono ?_
 · exact (hT3.alloc _).alloc _
 · have := eY (w := w3.alloc (.cells #[.int .i64 4, .int .i64 f, .int .i64 a, .int .i64 N, .string (str [])] 41)) (E := 41) (c := #[.int .i64 4, .int .i64 f, .int .i64 a, .int .i64 N, .string (str [])]) (m := 1) (size := 5) rfl (by omega)
   simp at this
   exact this
 · intro j hj
   injection hj with hj
   have := hT3.size
   omega
 · exact aW (aW h3 _) _
 · rintro e w4 ⟨v0, v1, rfl, hR⟩
   try go_simp
   go_wp2
   refine hQ_.ret (results_tmp2 rfl _ _ _) rfl ?_
   exact hR
theorem qI (b a f p : Nat) (l : List UInt8) (n : Num.St) (g : Option Nat) (tv : Value) (c : UInt8) (N : Int) (w : World) (h : bB w b a f (figV p)) (hF : NumF w p l n g tv) (ok : n.at_ ≤ 8) (hl : l.length ≤ 100000) (hc : ownB c = false) (hE : Num.pend n l = (N, 7)) :
 Calls Tryz.prog 33 #[.pointer (some ⟨b, 0, none⟩), .int .u8 c.toNat] w fun e w' => e = .returned (.tuple #[.slice none 0 0, .int .i64 7]) ∧ Touch [] w w' := by
 have h0 := h
 have hix := Tryz.strings_IndexByte ⟨#[48, 49, 50, 51, 52, 53, 54, 55, 56, 57, 45, 43, 46, 101, 69]⟩ (c.toNat : Int)
 have hio := lH c
 have hcc : ((c.toNat : Int)).toNat.toUInt8 = c := by simp
 have hdt : (⟨#[48, 49, 50, 51, 52, 53, 54, 55, 56, 57, 45, 43, 46, 101, 69]⟩ : ByteArray).data.toList = [48, 49, 50, 51, 52, 53, 54, 55, 56, 57, 45, 43, 46, 101, 69] := rfl
 simp only [hcc, hdt] at hix
 generalize Lib.indexByte [48, 49, 50, 51, 52, 53, 54, 55, 56, 57, 45, 43, 46, 101, 69] c = ix at hix hio
 clear hcc hdt
 have hge : ¬ 0 ≤ ix := fun q => by rw [hio.1 q] at hc; cases hc
 clear hio hc
 have hen := fun w hF => fF p l n g tv w hF hl ok
 rw [hE] at hen
 clear hE
 unfold bB at h
 have ⟨c0,c1,c2⟩ := cs3 h
 have ⟨f0,f1,f2⟩ := fs3 h
 have lb := aB h
 try simp at c0 c1 c2
 have ta1 := fun w => hG w p
 have ta2 := fun w => gC w p
 refine aA Tryz.func33 rfl ?_
 intro Q_ hQ_
 simp only [Tryz.ntmps33, ents_, Nat.reduceAdd, Nat.reduceSub]
 go_wp2_with fail
 refine (hix _).mono ?_
 rintro e w1 ⟨rfl, rfl⟩
 try go_simp
 go_wp2_with fail
 refine (hen _ (hF.keep ((Touch.refl [] _).alloc _) (by simp) (by simp))).mono ?_
 rintro e w2 ⟨rfl, ht2⟩
 try go_simp
 go_wp2
 refine hQ_.ret (results_tmp2 rfl _ _ _) rfl ?_
 exact ⟨rfl, ((Touch.refl [] _).alloc _).trans ht2⟩
theorem jN (b a f q : Nat) (t : List UInt8) (n k : Nat) (c : UInt8) (w : World) (h : bB w b a f (litV q)) (hL : dV w q t n k) (hbq : b ≠ q) (hc : t[n]? = some c) (hn : n + 1 < t.length) (ht : t.length ≤ 10) :
 Calls Tryz.prog 33 #[.pointer (some ⟨b, 0, none⟩), .int .u8 c.toNat] w fun e w' => e = .returned (.tuple #[.slice none 0 0, .int .i64 0]) ∧ bB w' b a f (litV q) ∧ dV w' q t (n + 1) k ∧ Touch [q] w w' := by
 have h0 := h
 have hL0 := hL
 unfold bB at h
 have ⟨c0,c1,c2⟩ := cs3 h
 have ⟨f0,f1,f2⟩ := fs3 h
 have lb := aB h
 try simp at c0 c1 c2
 unfold dV at hL
 have ⟨d0,d1,d2⟩ := cs3 hL
 have ⟨e0,e1,e2⟩ := fs3 hL
 have ld := aB hL
 try simp at d0 d1 d2
 have st := aR t
 have ta1 := fun w => nQ w q
 have i1 : ∀ w, (Instr.index 9 (.string (str t)) (.int .i64 (n : Int))).run Tryz.prog w = .ok (.int .u8 c.toNat) w := fun w => cI Tryz.underlying9 t .i64 n c hc w
 have tc : ((c.toNat : Int) != (c.toNat : Int)) = false := by simp
 have tn : (((n : Int) + 1) == (t.length : Int)) = false := by simp; omega
 clear hc
 refine aA Tryz.func33 rfl ?_
 intro Q_ hQ_
 simp only [Tryz.ntmps33, ents_, Nat.reduceAdd, Nat.reduceSub]
 go_upto_region 4 with (fail)
 go_quiet (fail)
 go_upto_region 7 with (fail)
 go_quiet (fail)
 go_wp2
 refine hQ_.ret (results_tmp2 rfl _ _ _) rfl ?_
 refine ⟨rfl, bA (aU (bA h0 _) (show q ≠ b from hbq.symm) _) _, ?_, (((Touch.refl _ _).drewN _).setCell (by simp) _).drewN _⟩
 exact bA (aF (bA hL0 _) 1 (.int .i64 ((n : Int) + 1))) _
theorem eI (b a f : Nat) (x : Int) (w : World) (R : Value → Value → World → Prop) (ha : a ≤ 1000000000)
 (hP : Calls Tryz.prog 33 #[.pointer (some ⟨b, 0, none⟩), .int .u8 x] w fun e w' => ∃ v0 v, e = .returned (.tuple #[v0, .int .i64 0]) ∧ bB w' b a f v ∧ R v0 v w') :
 Calls Tryz.prog 17 #[.pointer (some ⟨b, 0, none⟩), .int .u8 x] w fun e w' => ∃ v0 v w1, e = .returned (.tuple #[v0, .int .i64 0]) ∧ R v0 v w1 ∧ bB w' b (a + 1) f v ∧ w' = w1.setCell ⟨b, 0, none⟩ (.int .i64 ((a : Int) + 1)) := by
 refine aA Tryz.func17 rfl ?_
 intro Q_ hQ_
 simp only [Tryz.ntmps17, ents_, Nat.reduceAdd, Nat.reduceSub]
 go_wp2_with fail
 refine hP.mono ?_
 rintro e w1 ⟨v0, v, rfl, h, hR⟩
 try go_simp
 have h0 := h
 unfold bB at h
 have ⟨c0,c1,c2⟩ := cs3 h
 have ⟨f0,f1,f2⟩ := fs3 h
 have lb := aB h
 try simp at c0 c1 c2
 go_wp2
 refine hQ_.ret (results_tmp2 rfl _ _ _) rfl ?_
 exact ⟨v0, v, w1, rfl, hR, aF h0 0 _, rfl⟩
theorem qM (b : Nat) (k : Nat) (x : Int) (v0 : Value) (w : World) (R : World → Prop) (hk : k ≠ 0)
 (hP : Calls Tryz.prog 33 #[.pointer (some ⟨b, 0, none⟩), .int .u8 x] w fun e w' => e = .returned (.tuple #[v0, .int .i64 k]) ∧ R w') :
 Calls Tryz.prog 17 #[.pointer (some ⟨b, 0, none⟩), .int .u8 x] w fun e w' => e = .returned (.tuple #[.slice none 0 0, .int .i64 k]) ∧ R w' := by
 have hk2 : ((k : Int) != 0) = true := by simp; exact hk
 clear hk
 refine aA Tryz.func17 rfl ?_
 intro Q_ hQ_
 simp only [Tryz.ntmps17, ents_, Nat.reduceAdd, Nat.reduceSub]
 go_wp2_with fail
 refine hP.mono ?_
 rintro e w1 ⟨rfl, hR⟩
 try go_simp
 go_wp2
 refine hQ_.ret (results_tmp2 rfl _ _ _) rfl ?_
 exact ⟨rfl, hR⟩
theorem lK (b a f : Nat) (w : World) (h : bB w b a f .nilIface) : Calls Tryz.prog 20 #[.pointer (some ⟨b, 0, none⟩)] w fun e w' => e = .returned (.tuple #[.slice none 0 0, .int .i64 0]) ∧ w = w' := by
 unfold bB at h
 have ⟨c0,c1,c2⟩ := cs3 h
 have ⟨f0,f1,f2⟩ := fs3 h
 have lb := aB h
 try simp at c0 c1 c2
 refine aA Tryz.func20 rfl ?_
 intro Q_ hQ_
 simp only [Tryz.ntmps20, ents_, Nat.reduceAdd, Nat.reduceSub]
 go_wp2
 refine hQ_.ret (results_tmp2 rfl _ _ _) rfl ?_
 exact ⟨rfl, rfl⟩
theorem lL (b a f q : Nat) (w : World) (h : bB w b a f (litV q)) : Calls Tryz.prog 20 #[.pointer (some ⟨b, 0, none⟩)] w fun e w' => e = .returned (.tuple #[.slice none 0 0, .int .i64 3]) ∧ w = w' := by
 have ta : ∀ w, (Instr.typeAssert (litV q) 70 75 true).run Tryz.prog w = .ok (.tuple #[.agg #[.pointer none], .bool false]) w := fun w => by kernel_rfl
 unfold bB at h
 have ⟨c0,c1,c2⟩ := cs3 h
 have ⟨f0,f1,f2⟩ := fs3 h
 have lb := aB h
 try simp at c0 c1 c2
 refine aA Tryz.func20 rfl ?_
 intro Q_ hQ_
 simp only [Tryz.ntmps20, ents_, Nat.reduceAdd, Nat.reduceSub]
 go_wp2
 refine hQ_.ret (results_tmp2 rfl _ _ _) rfl ?_
 exact ⟨rfl, rfl⟩
end Go.Proofs.YthdncmagfgoboaaGreatDoor
end

section
namespace Go.Proofs.YthdncmagfgoboaaGreatDoor
open Go.RowKit
set_option maxRecDepth 100000
namespace Lx
abbrev Tok := Nat × Nat × Nat × Int × List UInt8
inductive Wd where
 | no
 | lit (k n : Nat)
 | fig (t : Num.T) (n : Num.St)
 | quo (q : Sq.St)
structure St where
 a : Nat
 f : Nat
 w : Wd
def Wd.Ok (a : Nat) : Wd → Prop
 | .no => True
 | .lit k n => (k = 1 ∨ k = 2 ∨ k = 3) ∧ n < (bZ k).length
 | .fig t n => t.V ∧ Num.Tells n t ∧ n.OkL t.text.length ∧ t.text.length ≤ a
 | .quo q => Sq.Ok q ∧ q.out.length ≤ a
inductive Outs (a : Nat) (x : UInt8) (pre : List Tok) : Except Int (St × List Tok) → Prop
 | bad : bN x.toNat = 0 → cQ x.toNat = false → Outs a x pre (.error 2)
 | blank : bN x.toNat = 0 → cQ x.toNat = true → Outs a x pre (.ok (⟨a + 1, a, .no⟩, pre))
 | lit (k : Nat) : bN x.toNat = k → (k = 1 ∨ k = 2 ∨ k = 3) → Outs a x pre (.ok (⟨a + 1, a, .lit k 1⟩, pre))
 | int (t : Num.T) (n : Num.St) : bN x.toNat = 4 → Num.push Num.St.start x.toNat = .ok n → Num.rpush [] x = .ok t.text → t.text = [x] → Outs a x pre (.ok (⟨a + 1, a, .fig t n⟩, pre))
 | str : bN x.toNat = 5 → Outs a x pre (.ok (⟨a + 1, a, .quo Sq.start⟩, pre))
 | tok (k : Nat) : bN x.toNat = k → 6 ≤ k → k ≤ 11 → Outs a x pre (.ok (⟨a + 1, a, .no⟩, pre ++ [(k, a, a + 1, 0, [])]))
inductive Step (a f : Nat) (x : UInt8) : Wd → Except Int (St × List Tok) → Prop
 | no (r) : Outs a x [] r → Step a f x .no r
 | litbad (k n : Nat) (c : UInt8) : (bZ k)[n]? = some c → x ≠ c → Step a f x (.lit k n) (.error 2)
 | litend (k n : Nat) : (bZ k)[n]? = some x → n + 1 = (bZ k).length → Step a f x (.lit k n) (.ok (⟨a + 1, f, .no⟩, [(k, f, a + 1, 0, [])]))
 | litmore (k n : Nat) : (bZ k)[n]? = some x → n + 1 < (bZ k).length → Step a f x (.lit k n) (.ok (⟨a + 1, f, .lit k (n + 1)⟩, []))
 | figbad (t : Num.T) (n : Num.St) (k : Nat) : ownB x = true → Num.push n x.toNat = .error k → Num.rpush t.text x = .error k → Step a f x (.fig t n) (.error k)
 | figmore (t t' : Num.T) (n n' : Num.St) : ownB x = true → Num.push n x.toNat = .ok n' → Num.rpush t.text x = .ok t'.text → t'.text = t.text ++ [x] → Step a f x (.fig t n) (.ok (⟨a + 1, f, .fig t' n'⟩, []))
 | figerr (t : Num.T) (n : Num.St) (N e : Int) : ownB x = false → Num.pend n t.text = (N, e) → Num.rend t.text = (N, e) → e ≠ 0 → Step a f x (.fig t n) (.error (if e = 3 then 2 else e))
 | figend (t : Num.T) (n : Num.St) (N : Int) (r) : ownB x = false → Num.pend n t.text = (N, 0) → Num.rend t.text = (N, 0) → Outs a x [(4, f, a, N, [])] r → Step a f x (.fig t n) r
 | quobad (q : Sq.St) (k : Nat) : Sq.push q x = .error k → Step a f x (.quo q) (.error k)
 | quomore (q q' : Sq.St) : Sq.push q x = .ok (q', false) → Step a f x (.quo q) (.ok (⟨a + 1, f, .quo q'⟩, []))
 | quoend (q q' : Sq.St) : Sq.push q x = .ok (q', true) → Step a f x (.quo q) (.ok (⟨a + 1, f, .no⟩, [(5, f, a + 1, 0, Sq.text q'.out)]))
theorem oP (x : UInt8) : bN x.toNat = 0 ∨ bN x.toNat = 1 ∨ bN x.toNat = 2 ∨ bN x.toNat = 3 ∨ bN x.toNat = 4 ∨ bN x.toNat = 5 ∨ (∃ k : Nat, bN x.toNat = k ∧ 6 ≤ k ∧ k ≤ 11) := by
 have key : ∀ n : Fin 256, bN (n.val : Int) = 0 ∨ bN (n.val : Int) = 1 ∨ bN (n.val : Int) = 2 ∨ bN (n.val : Int) = 3 ∨ bN (n.val : Int) = 4 ∨ bN (n.val : Int) = 5 ∨ (6 ≤ bN (n.val : Int) ∧ bN (n.val : Int) ≤ 11) := by decide
 rcases key ⟨x.toNat, x.toNat_lt⟩ with h | h | h | h | h | h | h
 · exact .inl h
 · exact .inr (.inl h)
 · exact .inr (.inr (.inl h))
 · exact .inr (.inr (.inr (.inl h)))
 · exact .inr (.inr (.inr (.inr (.inl h))))
 · exact .inr (.inr (.inr (.inr (.inr (.inl h)))))
 · exact .inr (.inr (.inr (.inr (.inr (.inr ⟨(bN x.toNat).toNat, by simp only at h; omega, by simp only at h; omega, by simp only at h; omega⟩)))))
def isOk : Except Nat Num.St → Bool
 | .ok _ => true
 | .error _ => false
theorem uK (x : UInt8) (h : bN x.toNat = 4) : ∃ n, Num.push Num.St.start x.toNat = .ok n := by
 have key : ∀ n : Fin 256, bN (n.val : Int) = 4 → isOk (Num.push Num.St.start n.val) = true := by decide
 have := key ⟨x.toNat, x.toNat_lt⟩ h
 simp only at this
 cases hp : Num.push Num.St.start x.toNat with
 | ok n => exact ⟨n, rfl⟩
 | error k => rw [hp] at this; cases this
def ROk : Except Int (St × List Tok) → Prop
 | .error _ => True
 | .ok (s, _) => s.w.Ok s.a
theorem sT (a : Nat) (x : UInt8) (pre : List Tok) : ∃ r, Outs a x pre r ∧ ROk r := by
 rcases oP x with h | h | h | h | h | h | ⟨k, h, h6, h11⟩
 · cases hb : cQ x.toNat with
   | false => exact ⟨_, .bad h hb, trivial⟩
   | true => exact ⟨_, .blank h hb, trivial⟩
 · exact ⟨_, .lit 1 h (by simp), by simp [ROk, Wd.Ok, bZ]⟩
 · exact ⟨_, .lit 2 h (by simp), by simp [ROk, Wd.Ok, bZ]⟩
 · exact ⟨_, .lit 3 h (by simp), by simp [ROk, Wd.Ok, bZ]⟩
 · obtain ⟨n, hn⟩ := uK x h
   rcases Num.sim Num.St.start Num.T.start Num.start_V Num.start_tells x (by decide) with ⟨k, h1, h2⟩ | ⟨n', t', h1, h2, hv, he, ht⟩
   · rw [hn] at h1; cases h1
   · have he' : t'.text = [x] := by rw [he]; rfl
     have hok : n'.OkL t'.text.length := by
      rcases Num.push_ways Num.St.start x.toNat 0 x.toNat_lt Num.start_ok with ⟨m, h3, h4⟩ | ⟨m, h3, h4⟩
      · rw [h1] at h3
        injection h3 with h3
        subst h3
        rw [he']; exact h4
      · rw [h1] at h3; exact absurd h3 (by simp)
     refine ⟨_, .int t' n' h h1 (h2.trans (by rw [he])) he', hv, ht, hok, ?_⟩
     rw [he']; simp
 · exact ⟨_, .str h, by exact ⟨Sq.ok_start, by simp [Sq.start]⟩⟩
 · exact ⟨_, .tok k h h6 h11, trivial⟩
theorem step_ex (a f : Nat) (x : UInt8) (w : Wd) (hw : w.Ok a) (ha : a ≤ 90000) : ∃ r, Step a f x w r ∧ ROk r := by
 cases w with
 | no =>
  obtain ⟨r, h1, h2⟩ := sT a x []
  exact ⟨r, .no r h1, h2⟩
 | lit k n =>
  obtain ⟨hk, hn⟩ := hw
  have hg : (bZ k)[n]? = some (bZ k)[n] := List.getElem?_eq_getElem hn
  by_cases hx : x = (bZ k)[n]
  · rw [← hx] at hg
    by_cases he : n + 1 = (bZ k).length
    · exact ⟨_, .litend k n hg he, trivial⟩
    · exact ⟨_, .litmore k n hg (by omega), hk, by omega⟩
  · exact ⟨_, .litbad k n _ hg hx, trivial⟩
 | fig t n =>
  obtain ⟨hv, ht, hok, hl⟩ := hw
  cases ho : ownB x with
  | true =>
   rcases Num.sim n t hv ht x (by omega) with ⟨k, h1, h2⟩ | ⟨n', t', h1, h2, hv', he, ht'⟩
   · exact ⟨_, .figbad t n k ho h1 h2, trivial⟩
   · refine ⟨_, .figmore t t' n n' ho h1 (by rw [h2, he]) he, hv', ht', ?_, ?_⟩
     · rcases Num.push_ways n x.toNat t.text.length x.toNat_lt hok with ⟨m, h3, h4⟩ | ⟨m, h3, h4⟩
       · rw [h1] at h3
         injection h3 with h3
         subst h3
         rw [he, List.length_append]; exact h4
       · rw [h1] at h3; exact absurd h3 (by simp)
     · rw [he, List.length_append]; simp; omega
  | false =>
   have hpe := Num.pend_eq n t hv ht
   obtain ⟨N, e, hNe⟩ : ∃ N e, Num.rend t.text = (N, e) := ⟨_, _, rfl⟩
   by_cases he : e = 0
   · subst he
     obtain ⟨r, h1, h2⟩ := sT a x [(4, f, a, N, [])]
     exact ⟨r, .figend t n N r ho (by rw [hpe, hNe]) hNe h1, h2⟩
   · exact ⟨_, .figerr t n N e ho (by rw [hpe, hNe]) hNe he, trivial⟩
 | quo q =>
  obtain ⟨hq, hl⟩ := hw
  cases hp : Sq.push q x with
  | error k => exact ⟨_, .quobad q k hp, trivial⟩
  | ok r =>
   obtain ⟨q', o⟩ := r
   have h1 := Sq.push_ok hq hp
   have h2 := Sq.push_len hq hp
   cases o with
   | false => exact ⟨_, .quomore q q' hp, h1, by simp only; omega⟩
   | true => exact ⟨_, .quoend q q' hp, trivial⟩
def fin (a f : Nat) : Wd → List Tok × Int
 | .no => ([], 0)
 | .fig t _ => if (Num.rend t.text).2 = 0 then ([(4, f, a, (Num.rend t.text).1, [])], 0) else ([], (Num.rend t.text).2)
 | _ => ([], 3)
end Lx
end Go.Proofs.YthdncmagfgoboaaGreatDoor
end

section
namespace Go.Proofs.YthdncmagfgoboaaGreatDoor
open Go.RowKit
set_option maxRecDepth 100000
set_option maxHeartbeats 8000000
structure dI (w0 W : World) (b a f : Nat) (l : List UInt8) (n : Num.St) (p : Nat) (g : Option Nat) (tv : Value) : Prop where
 x : bB W b a f (figV p)
 nf : NumF W p l n g tv
 bp : b ≠ p
 gb : ∀ k, g = some k → k ≠ b
 wp : w0.heap.size ≤ p
 wg : ∀ k, g = some k → w0.heap.size ≤ k
 wb : w0.heap.size ≤ b
 t : Touch [] w0 W
 ok : n.OkL l.length
structure fQ (w0 W : World) (b a f : Nat) : Prop where
 x : bB W b a f .nilIface
 wb : w0.heap.size ≤ b
 t : Touch [] w0 W
theorem qT {w0 W : World} {b a f : Nat} {l : List UInt8} {n : Num.St} {p : Nat} {g : Option Nat} {tv : Value} (h : dI w0 W b a f l n p g tv) : ∀ y, y ∈ b :: p :: g.toList → w0.heap.size ≤ y := by
 intro y hy
 rw [List.mem_cons, List.mem_cons] at hy
 rcases hy with rfl | rfl | hy
 · exact h.wb
 · exact h.wp
 · cases hg : g with
   | none => rw [hg] at hy; simp at hy
   | some k => rw [hg] at hy; simp at hy; subst hy; exact h.wg _ hg
theorem uM {w0 W : World} {b a f : Nat} (h : fQ w0 W b a f) (c : UInt8) (n' : Num.St) (ha : a ≤ 1000000000) (hk : bN c.toNat = 4) (hp : Num.push Num.St.start c.toNat = .ok n') (hok : n'.OkL 1) :
 Calls Tryz.prog 17 #[.pointer (some ⟨b, 0, none⟩), .int .u8 c.toNat] W fun e w' => e = .returned (.tuple #[.slice none 0 0, .int .i64 0]) ∧ ∃ p g tv, dI w0 w' b (a + 1) a [c] n' p g tv := by
 have hlb := aB h.x
 have hsz := h.t.size
 have hO := jI b a f .nilIface c n' none 0 0 W h.x hk hp
 refine (eI b a a c.toNat W (fun v0 v w' => v0 = .slice none 0 0 ∧ ∃ p g tv, v = figV p ∧ NumF w' p [c] n' g tv ∧ W.heap.size ≤ p ∧ (∀ k, g = some k → W.heap.size ≤ k) ∧ Touch [b] W w') ha (eR b a f c.toNat W _ h.x (hO.mono ?_))).mono ?_
 · rintro e w' ⟨rfl, ⟨p, g, tv, h1, h2, h3, h4⟩, h5⟩
   exact ⟨_, _, rfl, _, _, rfl, h1, rfl, p, g, tv, rfl, h2, h3, h4, h5⟩
 · rintro e w' ⟨v0, v, w1, rfl, ⟨rfl, p, g, tv, rfl, h2, h3, h4, h5⟩, h6, rfl⟩
   have hbp : b ≠ p := by omega
   have hgb : ∀ k, g = some k → k ≠ b := fun k hk => by have := h4 k hk; omega
   exact ⟨rfl, p, g, tv, h6, h2.keep (F := [b]) ((Touch.refl [b] _).setCell (by simp) _) (by simpa using hbp.symm) (fun k hk q => hgb k hk (List.mem_singleton.1 q)), hbp, hgb, by omega, fun k hk => by have := h4 k hk; omega, h.wb, h.t.step (h5.setCell (by simp) _) (fun y hy => .inr (by rw [List.mem_singleton.1 hy]; exact h.wb)), hok⟩
theorem oQ {w0 W : World} {b a f : Nat} {l : List UInt8} {n : Num.St} {p : Nat} {g : Option Nat} {tv : Value} (h : dI w0 W b a f l n p g tv) (c : UInt8) (n' : Num.St) (ha : a ≤ 1000000000) (hl : l.length ≤ 10000) (hc : ownB c = true) (hp : Num.push n c.toNat = .ok n') (hok : n'.OkL (l.length + 1)) :
 Calls Tryz.prog 17 #[.pointer (some ⟨b, 0, none⟩), .int .u8 c.toNat] W fun e w' => e = .returned (.tuple #[.slice none 0 0, .int .i64 0]) ∧ ∃ g tv, dI w0 w' b (a + 1) f (l ++ [c]) n' p g tv := by
 have hO := jM b a f p l n g tv c W h.x h.nf h.ok (by omega) hc h.bp h.gb
 have hlb := aB h.x
 have hsz := h.t.size
 refine (eI b a f c.toNat W (fun v0 v w' => v0 = .slice none 0 0 ∧ v = figV p ∧ Touch (p :: g.toList) W w' ∧ ∃ g' tv', NumF w' p (l ++ [c]) n' g' tv' ∧ cK W g g') ha (hO.mono ?_)).mono ?_
 · rintro e w' ⟨k, rfl, h1, h2, h3, _⟩
   obtain ⟨rfl, g', tv', h4, h5⟩ := h3 n' hp
   exact ⟨_, _, rfl, h1, rfl, rfl, h2, g', tv', h4, h5⟩
 · rintro e w' ⟨v0, v, w1, rfl, ⟨rfl, rfl, h2, g', tv', h4, h5⟩, h6, rfl⟩
   have hgb : ∀ k, g' = some k → k ≠ b := fun k hk => by
    rcases h5 with q | ⟨j, q1, q2⟩
    · exact h.gb k (q ▸ hk)
    · rw [hk] at q1; injection q1 with q1; subst q1; omega
   refine ⟨rfl, g', tv', h6, h4.keep (F := [b]) ((Touch.refl [b] _).setCell (by simp) _) (by simpa using h.bp.symm) (fun k hk q => hgb k hk (List.mem_singleton.1 q)), h.bp, hgb, h.wp, fun k hk => ?_, h.wb, ?_, by rw [List.length_append]; exact hok⟩
   · rcases h5 with q | ⟨j, q1, q2⟩
     · exact h.wg k (q ▸ hk)
     · rw [hk] at q1; injection q1 with q1; subst q1; omega
   · refine Touch.step (F := []) (G := b :: p :: g.toList) h.t (Touch.setCell (h2.mono (fun y hy => .inl (List.mem_cons_of_mem _ hy))) (by simp) _) (fun y hy => .inr (qT h y hy))
theorem qV {w0 W : World} {b a f : Nat} {l : List UInt8} {n : Num.St} {p : Nat} {g : Option Nat} {tv : Value} (h : dI w0 W b a f l n p g tv) (c : UInt8) (N : Int) (hl : l.length ≤ 10000) (hc : ownB c = false) (hE : Num.pend n l = (N, 7)) :
 Calls Tryz.prog 17 #[.pointer (some ⟨b, 0, none⟩), .int .u8 c.toNat] W fun e w' => e = .returned (.tuple #[.slice none 0 0, .int .i64 7]) ∧ Touch [] w0 w' := by
 refine (qM b 7 c.toNat (.slice none 0 0) W (fun w' => Touch [] w0 w') (by omega) ((qI b a f p l n g tv c N W h.x h.nf h.ok.at_ (by omega) hc hE).mono ?_)).mono (fun e w' q => q)
 rintro e w' ⟨rfl, t1⟩
 exact ⟨rfl, h.t.trans t1⟩
theorem qU {w0 W : World} {b a f : Nat} {l : List UInt8} {n : Num.St} {p : Nat} {g : Option Nat} {tv : Value} (h : dI w0 W b a f l n p g tv) (c : UInt8) (N : Int) (k : Nat) (ha : a ≤ 1000000000) (hl : l.length ≤ 10000) (hc : ownB c = false) (hE : Num.pend n l = (N, 0)) (hk : bN c.toNat = k) (hk6 : 6 ≤ k) (hk11 : k ≤ 11) :
 Calls Tryz.prog 17 #[.pointer (some ⟨b, 0, none⟩), .int .u8 c.toNat] W fun e w' => (∃ ad cc g', e = .returned (.tuple #[.slice ad 2 cc, .int .i64 0]) ∧ cV w' (.slice ad 2 cc) [(4, f, a, N, []), (k, a, a + 1, 0, [])] g' ∧ (∀ j, g' = some j → j ≠ b ∧ w0.heap.size ≤ j)) ∧ fQ w0 w' b (a + 1) a := by
 have hlb := aB h.x
 have hsz := h.t.size
 have hwb := h.wb
 refine (eI b a a c.toNat W (fun v0 v w' => v = .nilIface ∧ (∃ ad cc g', v0 = .slice ad 2 cc ∧ cV w' (.slice ad 2 cc) [(4, f, a, N, []), (k, a, a + 1, 0, [])] g' ∧ (∀ j, g' = some j → j ≠ b ∧ w0.heap.size ≤ j)) ∧ Touch [] w0 w') ha (fW b a f p l n g tv c N W _ h.x h.nf h.ok.at_ (by omega) hc hE ?_)).mono ?_
 · intro W' ad g0 t1 t2 t3 t4
   have hs1 := t1.size
   refine (jG b a f (figV p) c.toNat k [(4, f, a, N, [])] ad 1 g0 W' t4 t2 (fun j hj q => by have := t3 j hj; omega) (by simp) hk hk6 hk11 ha).mono ?_
   rintro e w' ⟨⟨ad', cc, g', rfl, h1, h2⟩, h3, h4⟩
   refine ⟨_, _, rfl, _, _, rfl, h3, rfl, ⟨ad', cc, g', rfl, h1, fun j hj => ?_⟩, Touch.step (h.t.trans t1) h4 (fun y hy => .inr ?_)⟩
   · rcases h2 j hj with q | q
     · have := t3 j q; exact ⟨by omega, by omega⟩
     · exact ⟨by omega, by omega⟩
   · rw [List.mem_cons] at hy
     rcases hy with rfl | hy
     · exact h.wb
     · cases hg : g0 with
       | none => rw [hg] at hy; simp at hy
       | some j => rw [hg] at hy; simp at hy; subst hy; have := t3 _ hg; omega
 · rintro e w' ⟨v0, v, w1, rfl, ⟨rfl, ⟨ad, cc, g', rfl, h1, h2⟩, h3⟩, h6, rfl⟩
   exact ⟨⟨ad, cc, g', rfl, SlAt.keep (F := [b]) h1 ((Touch.refl [b] _).setCell (by simp) _) (fun j hj q => (h2 j hj).1 (List.mem_singleton.1 q)), h2⟩, h6, h.wb, Touch.step h3 ((Touch.refl [b] _).setCell (by simp) _) (fun y hy => .inr (by rw [List.mem_singleton.1 hy]; exact h.wb))⟩
end Go.Proofs.YthdncmagfgoboaaGreatDoor
end

section
namespace Go.Proofs.YthdncmagfgoboaaGreatDoor
open Go.RowKit
set_option maxRecDepth 100000
set_option maxHeartbeats 8000000
def n1 : Num.St := ⟨3, 1, 0, 0, false, 0⟩
def n12 : Num.St := ⟨3, 12, 0, 0, false, 0⟩
def n1p : Num.St := ⟨4, 1, 0, 0, false, 0⟩
def n15 : Num.St := ⟨5, 15, 0, 1, false, 0⟩
theorem ok1 : n1.OkL 1 := ⟨by decide, by decide, by decide, by decide, by decide⟩
theorem ok12 : n12.OkL 2 := ⟨by decide, by decide, by decide, by decide, by decide⟩
theorem ok1p : n1p.OkL 2 := ⟨by decide, by decide, by decide, by decide, by decide⟩
theorem ok15 : n15.OkL 3 := ⟨by decide, by decide, by decide, by decide, by decide⟩
theorem f49 {w0 W : World} {b a f : Nat} (h : fQ w0 W b a f) (ha : a ≤ 1000000000) : Calls Tryz.prog 17 #[.pointer (some ⟨b, 0, none⟩), .int .u8 49] W fun e w' => e = .returned (.tuple #[.slice none 0 0, .int .i64 0]) ∧ ∃ p g tv, dI w0 w' b (a + 1) a [49] n1 p g tv :=
 uM h 49 n1 ha (by decide) (by rfl) ok1
theorem f50 {w0 W : World} {b a f p : Nat} {g : Option Nat} {tv : Value} (h : dI w0 W b a f [49] n1 p g tv) (ha : a ≤ 1000000000) : Calls Tryz.prog 17 #[.pointer (some ⟨b, 0, none⟩), .int .u8 50] W fun e w' => e = .returned (.tuple #[.slice none 0 0, .int .i64 0]) ∧ ∃ g tv, dI w0 w' b (a + 1) f [49, 50] n12 p g tv :=
 oQ h 50 n12 ha (by decide) (by decide) (by rfl) ok12
theorem f46 {w0 W : World} {b a f p : Nat} {g : Option Nat} {tv : Value} (h : dI w0 W b a f [49] n1 p g tv) (ha : a ≤ 1000000000) : Calls Tryz.prog 17 #[.pointer (some ⟨b, 0, none⟩), .int .u8 46] W fun e w' => e = .returned (.tuple #[.slice none 0 0, .int .i64 0]) ∧ ∃ g tv, dI w0 w' b (a + 1) f [49, 46] n1p p g tv :=
 oQ h 46 n1p ha (by decide) (by decide) (by rfl) ok1p
theorem f53 {w0 W : World} {b a f p : Nat} {g : Option Nat} {tv : Value} (h : dI w0 W b a f [49, 46] n1p p g tv) (ha : a ≤ 1000000000) : Calls Tryz.prog 17 #[.pointer (some ⟨b, 0, none⟩), .int .u8 53] W fun e w' => e = .returned (.tuple #[.slice none 0 0, .int .i64 0]) ∧ ∃ g tv, dI w0 w' b (a + 1) f [49, 46, 53] n15 p g tv :=
 oQ h 53 n15 ha (by decide) (by decide) (by rfl) ok15
theorem f32 {w0 W : World} {b a f p : Nat} {g : Option Nat} {tv : Value} (h : dI w0 W b a f [49, 46, 53] n15 p g tv) : Calls Tryz.prog 17 #[.pointer (some ⟨b, 0, none⟩), .int .u8 32] W fun e w' => e = .returned (.tuple #[.slice none 0 0, .int .i64 7]) ∧ Touch [] w0 w' :=
 qV h 32 0 (by decide) (by decide) (by rfl)
theorem f44 {w0 W : World} {b a f p : Nat} {g : Option Nat} {tv : Value} (h : dI w0 W b a f [49, 50] n12 p g tv) (ha : a ≤ 1000000000) : Calls Tryz.prog 17 #[.pointer (some ⟨b, 0, none⟩), .int .u8 44] W fun e w' => (∃ ad cc g', e = .returned (.tuple #[.slice ad 2 cc, .int .i64 0]) ∧ cV w' (.slice ad 2 cc) [(4, f, a, 12, []), (11, a, a + 1, 0, [])] g' ∧ (∀ j, g' = some j → j ≠ b ∧ w0.heap.size ≤ j)) ∧ fQ w0 w' b (a + 1) a :=
 qU h 44 12 11 ha (by decide) (by decide) (by rfl) (by decide) (by decide) (by decide)
theorem uG (A c : Nat) (w : World) (hc : ∀ w', Touch [] w w' → w'.cell? ⟨A, 0, none⟩ = some (.int .u8 49) ∧ w'.cell? ⟨A, 1, none⟩ = some (.int .u8 50) ∧ w'.cell? ⟨A, 2, none⟩ = some (.int .u8 44)) :
 Calls Tryz.prog 12 #[.slice (some ⟨A, 0, none⟩) 3 c] w fun e w' => (∃ ad cc g, e = .returned (.tuple #[.slice ad 2 cc, .int .i64 3, .int .i64 0]) ∧ cV w' (.slice ad 2 cc) [(4, 0, 2, 12, []), (11, 2, 3, 0, [])] g) ∧ Touch [] w w' := by
 refine aA Tryz.func12 rfl ?_
 intro Q_ hQ_
 simp only [Tryz.ntmps12, ents_, Nat.reduceAdd, Nat.reduceSub]
 go_wp2_with fail
 refine (fH _).mono ?_
 rintro e w1 ⟨⟨b, rfl, hb, hx⟩, ht1⟩
 try go_simp
 have h0 : fQ w w1 b 0 0 := ⟨hx, hb, ht1⟩
 clear hx hb ht1
 go_wp2_with fail
 go_loopw [16, 6] (fun v16 v6 wr => ∃ i : Nat, v16 = .int .i64 i ∧ ((i = 0 ∧ v6 = .slice none 0 0 ∧ fQ w wr b 0 0) ∨ (i = 1 ∧ v6 = .slice none 0 0 ∧ ∃ p g tv, dI w wr b 1 0 [49] n1 p g tv) ∨ (i = 2 ∧ v6 = .slice none 0 0 ∧ ∃ p g tv, dI w wr b 2 0 [49, 50] n12 p g tv) ∨
  (i = 3 ∧ (∃ ad cc g, v6 = .slice ad 2 cc ∧ cV wr (.slice ad 2 cc) [(4, 0, 2, 12, []), (11, 2, 3, 0, [])] g ∧ (∀ j, g = some j → w.heap.size ≤ j)) ∧ fQ w wr b 3 2))) (fun v16 v6 _ => 3 - (intOf v16).toNat)
 case atStart => exact ⟨0, rfl, .inl ⟨rfl, rfl, h0⟩⟩
 case round =>
  clear h0
  obtain ⟨i, rfl, h⟩ := hrel
  rcases h with ⟨rfl, rfl, h⟩ | ⟨rfl, rfl, p, g, tv, h⟩ | ⟨rfl, rfl, p, g, tv, h⟩ | ⟨rfl, ⟨ad, cc, g, rfl, hk, hgw⟩, h⟩
  · have hz := (hc _ h.t).1
    go_wp2_with fail
    refine (f49 h (by omega)).mono ?_
    rintro e w2 ⟨rfl, p, g, tv, h2⟩
    try go_simp
    go_wp2
    exact ⟨⟨1, rfl, .inr (.inl ⟨rfl, rfl, p, g, tv, h2⟩)⟩, by decide⟩
  · have hz := (hc _ h.t).2.1
    go_wp2_with fail
    refine (f50 h (by omega)).mono ?_
    rintro e w2 ⟨rfl, g, tv, h2⟩
    try go_simp
    go_wp2
    exact ⟨⟨2, rfl, .inr (.inr (.inl ⟨rfl, rfl, p, g, tv, h2⟩))⟩, by decide⟩
  · have hz := (hc _ h.t).2.2
    go_wp2_with fail
    refine (f44 h (by omega)).mono ?_
    rintro e w2 ⟨⟨ad, cc, g, rfl, hk, _⟩, h2⟩
    try go_simp
    go_wp2_with (at_builtin; refine aJ eG rfl (.tmp 31) (.tmp 32) rfl rfl (SlAt.nil _ _ _) rfl (SlAt.src hk (by simp [cB, Value.oneCell'])) (by simp) ?_; intro ad4 c4 w4 g4 hs4 ht4 hn4)
    exact ⟨⟨3, rfl, .inr (.inr (.inr ⟨rfl, ⟨ad4, c4, g4, rfl, hs4, fun j hj => by
     rcases hn4 with q | ⟨k, q1, q2⟩
     · rw [hj] at q; cases q
     · rw [hj] at q1; injection q1 with q1; subst q1; have := h2.t.size; omega⟩, ht4.keep h2.x (by simp), h2.wb, h2.t.trans ht4⟩))⟩, by decide⟩
  · go_wp2_with fail
    refine (lK b 3 2 _ h.x).mono ?_
    rintro e w2 ⟨rfl, rfl⟩
    try go_simp
    go_wp2_with (at_builtin; refine aJ eG rfl (.tmp 45) (.tmp 46) rfl rfl hk rfl (⟨rfl, by simp, .inl ⟨rfl, rfl⟩⟩ : gP _ 5 (.slice none 0 0) 0 []) (by simp) ?_; intro ad4 c4 w4 g4 hs4 ht4 hn4)
    refine hQ_.ret (results_tmp3 rfl _ _ _) rfl ?_
    exact ⟨⟨ad4, c4, g4, rfl, (by simp at hs4; exact hs4)⟩, h.t.step ht4 (fun y hy => .inr (by
     cases g with
     | none => simp at hy
     | some j => simp at hy; subst hy; exact hgw _ rfl))⟩
structure gQ (w0 W : World) (b a q n : Nat) : Prop where
 x : bB W b a 0 (litV q)
 l : dV W q [116, 114, 117, 101] n 2
 bq : b ≠ q
 wq : w0.heap.size ≤ q
 wb : w0.heap.size ≤ b
 t : Touch [] w0 W
theorem l116 {w0 W : World} {b : Nat} (h : fQ w0 W b 0 0) : Calls Tryz.prog 17 #[.pointer (some ⟨b, 0, none⟩), .int .u8 116] W fun e w' => e = .returned (.tuple #[.slice none 0 0, .int .i64 0]) ∧ ∃ q, gQ w0 w' b 1 q 1 := by
 have hlb := aB h.x
 have hsz := h.t.size
 have hO := jH b 0 0 .nilIface 116 2 none 0 0 W h.x (by decide) (by decide)
 refine (eI b 0 0 116 W (fun v0 v w' => v0 = .slice none 0 0 ∧ ∃ q, v = litV q ∧ dV w' q [116, 114, 117, 101] 1 2 ∧ W.heap.size ≤ q ∧ Touch [b] W w') (by omega) (eR b 0 0 116 W _ h.x (hO.mono ?_))).mono ?_
 · rintro e w' ⟨rfl, ⟨q, q1, q2, q3⟩, q4⟩
   exact ⟨_, _, rfl, _, _, rfl, q1, rfl, q, rfl, q2, q3, q4⟩
 · rintro e w' ⟨v0, v, w1, rfl, ⟨rfl, q, rfl, q2, q3, q4⟩, h6, rfl⟩
   exact ⟨rfl, q, h6, aU q2 (show b ≠ q by omega) _, by omega, by omega, h.wb, h.t.step (q4.setCell (by simp) _) (fun y hy => .inr (by rw [List.mem_singleton.1 hy]; exact h.wb))⟩
theorem lmore {w0 W : World} {b a q n : Nat} (h : gQ w0 W b a q n) (c : UInt8) (ha : a ≤ 1000000000) (hc : ([116, 114, 117, 101] : List UInt8)[n]? = some c) (hn : n + 1 < 4) : Calls Tryz.prog 17 #[.pointer (some ⟨b, 0, none⟩), .int .u8 c.toNat] W fun e w' => e = .returned (.tuple #[.slice none 0 0, .int .i64 0]) ∧ gQ w0 w' b (a + 1) q (n + 1) := by
 have hO := jN b a 0 q [116, 114, 117, 101] n 2 c W h.x h.l h.bq hc hn (by decide)
 refine (eI b a 0 c.toNat W (fun v0 v w' => v0 = .slice none 0 0 ∧ v = litV q ∧ dV w' q [116, 114, 117, 101] (n + 1) 2 ∧ Touch [q] W w') ha (hO.mono ?_)).mono ?_
 · rintro e w' ⟨rfl, q1, q2, q3⟩
   exact ⟨_, _, rfl, q1, rfl, rfl, q2, q3⟩
 · rintro e w' ⟨v0, v, w1, rfl, ⟨rfl, rfl, q2, q3⟩, h6, rfl⟩
   refine ⟨rfl, h6, aU q2 h.bq _, h.bq, h.wq, h.wb, ?_⟩
   refine Touch.step (F := []) (G := [b, q]) h.t (Touch.setCell (q3.mono (fun y hy => .inl (List.mem_cons_of_mem _ hy))) (by simp) _) (fun y hy => .inr ?_)
   rcases List.mem_cons.1 hy with rfl | hy
   · exact h.wb
   · rw [List.mem_singleton.1 hy]; exact h.wq
theorem l114 {w0 W : World} {b q : Nat} (h : gQ w0 W b 1 q 1) : Calls Tryz.prog 17 #[.pointer (some ⟨b, 0, none⟩), .int .u8 114] W fun e w' => e = .returned (.tuple #[.slice none 0 0, .int .i64 0]) ∧ gQ w0 w' b 2 q 2 := lmore h 114 (by omega) (by rfl) (by omega)
theorem l117 {w0 W : World} {b q : Nat} (h : gQ w0 W b 2 q 2) : Calls Tryz.prog 17 #[.pointer (some ⟨b, 0, none⟩), .int .u8 117] W fun e w' => e = .returned (.tuple #[.slice none 0 0, .int .i64 0]) ∧ gQ w0 w' b 3 q 3 := lmore h 117 (by omega) (by rfl) (by omega)
theorem sF (A c : Nat) (w : World) (hc : ∀ w', Touch [] w w' → w'.cell? ⟨A, 0, none⟩ = some (.int .u8 116) ∧ w'.cell? ⟨A, 1, none⟩ = some (.int .u8 114) ∧ w'.cell? ⟨A, 2, none⟩ = some (.int .u8 117)) :
 Calls Tryz.prog 12 #[.slice (some ⟨A, 0, none⟩) 3 c] w fun e w' => e = .returned (.tuple #[.slice none 0 0, .int .i64 3, .int .i64 3]) ∧ Touch [] w w' := by
 refine aA Tryz.func12 rfl ?_
 intro Q_ hQ_
 simp only [Tryz.ntmps12, ents_, Nat.reduceAdd, Nat.reduceSub]
 go_wp2_with fail
 refine (fH _).mono ?_
 rintro e w1 ⟨⟨b, rfl, hb, hx⟩, ht1⟩
 try go_simp
 have h0 : fQ w w1 b 0 0 := ⟨hx, hb, ht1⟩
 clear hx hb ht1
 go_wp2_with fail
 go_loopw [16, 6] (fun v16 v6 wr => ∃ i : Nat, v16 = .int .i64 i ∧ v6 = .slice none 0 0 ∧ ((i = 0 ∧ fQ w wr b 0 0) ∨ (i = 1 ∧ ∃ q, gQ w wr b 1 q 1) ∨ (i = 2 ∧ ∃ q, gQ w wr b 2 q 2) ∨ (i = 3 ∧ ∃ q, gQ w wr b 3 q 3))) (fun v16 v6 _ => 3 - (intOf v16).toNat)
 case atStart => exact ⟨0, rfl, rfl, .inl ⟨rfl, h0⟩⟩
 case round =>
  clear h0
  obtain ⟨i, rfl, rfl, h⟩ := hrel
  rcases h with ⟨rfl, h⟩ | ⟨rfl, q, h⟩ | ⟨rfl, q, h⟩ | ⟨rfl, q, h⟩
  · have hz := (hc _ h.t).1
    go_wp2_with fail
    refine (l116 h).mono ?_
    rintro e w2 ⟨rfl, q, h2⟩
    try go_simp
    go_wp2
    exact ⟨⟨1, rfl, rfl, .inr (.inl ⟨rfl, q, h2⟩)⟩, by decide⟩
  · have hz := (hc _ h.t).2.1
    go_wp2_with fail
    refine (l114 h).mono ?_
    rintro e w2 ⟨rfl, h2⟩
    try go_simp
    go_wp2
    exact ⟨⟨2, rfl, rfl, .inr (.inr (.inl ⟨rfl, q, h2⟩))⟩, by decide⟩
  · have hz := (hc _ h.t).2.2
    go_wp2_with fail
    refine (l117 h).mono ?_
    rintro e w2 ⟨rfl, h2⟩
    try go_simp
    go_wp2
    exact ⟨⟨3, rfl, rfl, .inr (.inr (.inr ⟨rfl, q, h2⟩))⟩, by decide⟩
  · go_wp2_with fail
    refine (lL b 3 0 q _ h.x).mono ?_
    rintro e w2 ⟨rfl, rfl⟩
    try go_simp
    go_wp2
    refine hQ_.ret (results_tmp3 rfl _ _ _) rfl ?_
    exact ⟨rfl, h.t⟩
theorem qK (A c : Nat) (w : World) (hc : ∀ w', Touch [] w w' → w'.cell? ⟨A, 0, none⟩ = some (.int .u8 49) ∧ w'.cell? ⟨A, 1, none⟩ = some (.int .u8 46) ∧ w'.cell? ⟨A, 2, none⟩ = some (.int .u8 53) ∧ w'.cell? ⟨A, 3, none⟩ = some (.int .u8 32)) :
 Calls Tryz.prog 12 #[.slice (some ⟨A, 0, none⟩) 4 c] w fun e w' => e = .returned (.tuple #[.slice none 0 0, .int .i64 3, .int .i64 7]) ∧ Touch [] w w' := by
 refine aA Tryz.func12 rfl ?_
 intro Q_ hQ_
 simp only [Tryz.ntmps12, ents_, Nat.reduceAdd, Nat.reduceSub]
 go_wp2_with fail
 refine (fH _).mono ?_
 rintro e w1 ⟨⟨b, rfl, hb, hx⟩, ht1⟩
 try go_simp
 have h0 : fQ w w1 b 0 0 := ⟨hx, hb, ht1⟩
 clear hx hb ht1
 go_wp2_with fail
 go_loopw [16, 6] (fun v16 v6 wr => ∃ i : Nat, v16 = .int .i64 i ∧ v6 = .slice none 0 0 ∧ ((i = 0 ∧ fQ w wr b 0 0) ∨ (i = 1 ∧ ∃ p g tv, dI w wr b 1 0 [49] n1 p g tv) ∨ (i = 2 ∧ ∃ p g tv, dI w wr b 2 0 [49, 46] n1p p g tv) ∨ (i = 3 ∧ ∃ p g tv, dI w wr b 3 0 [49, 46, 53] n15 p g tv))) (fun v16 v6 _ => 4 - (intOf v16).toNat)
 case atStart => exact ⟨0, rfl, rfl, .inl ⟨rfl, h0⟩⟩
 case round =>
  clear h0
  obtain ⟨i, rfl, rfl, h⟩ := hrel
  rcases h with ⟨rfl, h⟩ | ⟨rfl, p, g, tv, h⟩ | ⟨rfl, p, g, tv, h⟩ | ⟨rfl, p, g, tv, h⟩
  · have hz := (hc _ h.t).1
    go_wp2_with fail
    refine (f49 h (by omega)).mono ?_
    rintro e w2 ⟨rfl, p, g, tv, h2⟩
    try go_simp
    go_wp2
    exact ⟨⟨1, rfl, rfl, .inr (.inl ⟨rfl, p, g, tv, h2⟩)⟩, by decide⟩
  · have hz := (hc _ h.t).2.1
    go_wp2_with fail
    refine (f46 h (by omega)).mono ?_
    rintro e w2 ⟨rfl, g, tv, h2⟩
    try go_simp
    go_wp2
    exact ⟨⟨2, rfl, rfl, .inr (.inr (.inl ⟨rfl, p, g, tv, h2⟩))⟩, by decide⟩
  · have hz := (hc _ h.t).2.2.1
    go_wp2_with fail
    refine (f53 h (by omega)).mono ?_
    rintro e w2 ⟨rfl, g, tv, h2⟩
    try go_simp
    go_wp2
    exact ⟨⟨3, rfl, rfl, .inr (.inr (.inr ⟨rfl, p, g, tv, h2⟩))⟩, by decide⟩
  · have hz := (hc _ h.t).2.2.2
    go_wp2_with fail
    refine (f32 h).mono ?_
    rintro e w2 ⟨rfl, ht⟩
    try go_simp
    go_wp2
    refine hQ_.ret (results_tmp3 rfl _ _ _) rfl ?_
    exact ⟨rfl, ht⟩
end Go.Proofs.YthdncmagfgoboaaGreatDoor
end

section
namespace Go.Proofs.YthdncmagfgoboaaGreatDoor
open Go.RowKit
set_option maxRecDepth 100000
set_option maxHeartbeats 8000000
theorem iN {w : World} {A : Option Addr} {n c : Nat} {l : List (Nat × Nat × Nat × Int × List UInt8)} {g : Option Nat} (h : cV w (.slice A n c) l g) (hl : 0 < l.length) : ∃ k, A = some ⟨k, 0, none⟩ ∧ g = some k ∧ n = l.length ∧ k < w.heap.size ∧ ∀ w', Touch [] w w' → ∀ j u, (cB l)[j]? = some u → w'.cell? ⟨k, j, none⟩ = some u := by
 unfold cV at h
 rcases h.shape with ⟨q1, q2, _⟩ | ⟨k, cap, cur, q1, q2, q3, _⟩
 · omega
 · injection q1 with e1 e2 e3
   exact ⟨k, e1, q2, e2, aB q3, fun w' ht j u hu => ht.cell (h.cell q2 hu) (by simp)⟩
theorem cP {w : World} {c : Array Value} {f : Nat × Nat} {w' : World} (h : Touch [] (w.alloc (.cells c 5 f)) w') (i : Nat) (v : Value) (hi : c[i]? = some v) : w'.cell? ⟨w.heap.size, i, none⟩ = some v := by
 have := aN (aZ w (.cells c 5 f)) i
 rw [hi] at this
 exact h.cell this (by simp)
theorem vC (a b c d : Int) (w : World) : (binOp .eql 41 (.agg #[.int .i64 a, .int .i64 b, .int .i64 c, .int .i64 d, .string ⟨#[]⟩]) (.agg #[.int .i64 a, .int .i64 b, .int .i64 c, .int .i64 d, .string ⟨#[]⟩])).run Tryz.prog w = .ok (.bool true) w := by
 go_simp
theorem tA (w : World) : Calls Tryz.prog 8 #[] w fun e w' => e = .returned (.bool true) ∧ Touch [] w w' := by
 have hv0 : ∀ w : World, (convert 22 22 (.slice (some ⟨w.heap.size, 0, none⟩) 3 3)).run Tryz.prog (w.alloc (.cells #[.int .u8 49, .int .u8 50, .int .u8 44] 5)) = .ok (.slice (some ⟨w.heap.size, 0, none⟩) 3 3) (w.alloc (.cells #[.int .u8 49, .int .u8 50, .int .u8 44] 5 (3, 4))) := fun w => Lib.run_convert_bytes_const (P := Tryz.prog) w 22 5 #[.int .u8 49, .int .u8 50, .int .u8 44] 3 3 Tryz.underlying22 Tryz.underlying5
 have hv1 : ∀ w : World, (convert 22 22 (.slice (some ⟨w.heap.size, 0, none⟩) 3 3)).run Tryz.prog (w.alloc (.cells #[.int .u8 116, .int .u8 114, .int .u8 117] 5)) = .ok (.slice (some ⟨w.heap.size, 0, none⟩) 3 3) (w.alloc (.cells #[.int .u8 116, .int .u8 114, .int .u8 117] 5 (3, 4))) := fun w => Lib.run_convert_bytes_const (P := Tryz.prog) w 22 5 #[.int .u8 116, .int .u8 114, .int .u8 117] 3 3 Tryz.underlying22 Tryz.underlying5
 have hv2 : ∀ w : World, (convert 22 22 (.slice (some ⟨w.heap.size, 0, none⟩) 4 4)).run Tryz.prog (w.alloc (.cells #[.int .u8 49, .int .u8 46, .int .u8 53, .int .u8 32] 5)) = .ok (.slice (some ⟨w.heap.size, 0, none⟩) 4 4) (w.alloc (.cells #[.int .u8 49, .int .u8 46, .int .u8 53, .int .u8 32] 5 (4, 5))) := fun w => Lib.run_convert_bytes_const (P := Tryz.prog) w 22 5 #[.int .u8 49, .int .u8 46, .int .u8 53, .int .u8 32] 4 4 Tryz.underlying22 Tryz.underlying5
 refine aA Tryz.func8 rfl ?_
 intro Q_ hQ_
 simp only [Tryz.ntmps8, ents_, Nat.reduceAdd, Nat.reduceSub]
 go_wp2_with fail
 refine (uG w.heap.size 3 _ (fun w' h => ⟨cP (w := w) (c := #[.int .u8 49, .int .u8 50, .int .u8 44]) h 0 _ rfl, cP (w := w) (c := #[.int .u8 49, .int .u8 50, .int .u8 44]) h 1 _ rfl, cP (w := w) (c := #[.int .u8 49, .int .u8 50, .int .u8 44]) h 2 _ rfl⟩)).mono ?_
 rintro e w1 ⟨⟨ad, cc, g, rfl, hk⟩, ht1⟩
 try go_simp
 have T1 := ((Touch.refl [] w).alloc _).trans ht1
 clear ht1
 go_wp2_with fail
 refine (sF w1.heap.size 3 _ (fun w' h => ⟨cP (w := w1) (c := #[.int .u8 116, .int .u8 114, .int .u8 117]) h 0 _ rfl, cP (w := w1) (c := #[.int .u8 116, .int .u8 114, .int .u8 117]) h 1 _ rfl, cP (w := w1) (c := #[.int .u8 116, .int .u8 114, .int .u8 117]) h 2 _ rfl⟩)).mono ?_
 rintro e w2 ⟨rfl, ht2⟩
 try go_simp
 have T2 := ((Touch.refl [] w1).alloc _).trans ht2
 clear ht2
 go_wp2_with fail
 refine (qK w2.heap.size 4 _ (fun w' h => ⟨cP (w := w2) (c := #[.int .u8 49, .int .u8 46, .int .u8 53, .int .u8 32]) h 0 _ rfl, cP (w := w2) (c := #[.int .u8 49, .int .u8 46, .int .u8 53, .int .u8 32]) h 1 _ rfl, cP (w := w2) (c := #[.int .u8 49, .int .u8 46, .int .u8 53, .int .u8 32]) h 2 _ rfl, cP (w := w2) (c := #[.int .u8 49, .int .u8 46, .int .u8 53, .int .u8 32]) h 3 _ rfl⟩)).mono ?_
 rintro e w3 ⟨rfl, ht3⟩
 try go_simp
 have T3 := T2.trans (((Touch.refl [] w2).alloc _).trans ht3)
 clear ht3 T2
 clear hv0 hv1 hv2
 go_upto_region 4 with (fail)
 obtain ⟨k, rfl, rfl, hn, hkl, hcell⟩ := iN hk (by simp)
 clear hn
 have hc := hcell w3 T3
 have c0 : w3.cell? ⟨k, 0, none⟩ = some (.int .i64 4) := hc 0 _ rfl
 have c1 : w3.cell? ⟨k, 1, none⟩ = some (.int .i64 0) := hc 1 _ rfl
 have c2 : w3.cell? ⟨k, 2, none⟩ = some (.int .i64 2) := hc 2 _ rfl
 have c3 : w3.cell? ⟨k, 3, none⟩ = some (.int .i64 12) := hc 3 _ rfl
 have c4 : w3.cell? ⟨k, 4, none⟩ = some (.string ⟨#[]⟩) := hc 4 _ rfl
 have c5 : w3.cell? ⟨k, 5, none⟩ = some (.int .i64 11) := hc 5 _ rfl
 have c6 : w3.cell? ⟨k, 6, none⟩ = some (.int .i64 2) := hc 6 _ rfl
 have c7 : w3.cell? ⟨k, 7, none⟩ = some (.int .i64 3) := hc 7 _ rfl
 have c8 : w3.cell? ⟨k, 8, none⟩ = some (.int .i64 0) := hc 8 _ rfl
 have c9 : w3.cell? ⟨k, 9, none⟩ = some (.string ⟨#[]⟩) := hc 9 _ rfl
 have kl := T3.lt hkl
 have hT := T1.trans T3
 clear hc hcell hk T1 T3 hkl
 have te1 := vC 4 0 2 12
 have te2 := vC 11 2 3 0
 go_wp2
 refine hQ_.ret (results_tmp rfl _ _ _) rfl ?_
 exact ⟨rfl, hT⟩
end Go.Proofs.YthdncmagfgoboaaGreatDoor
end
