/- One of the texts that lead to the theorem lexPlays.proved: the conditions stand in each theorem. -/
import Derived.Test.YthdncmagfgoboaaGreatDoorP19
import Derived.Test.YthdncmagfgoboaaGreatDoorP20
import Derived.Deep.RegionHeld3
import Derived.Deep.RegionLaw
import Derived.Deep.DeepCutAuto
import Derived.Outline
import Derived.Deep.Quiet
set_option linter.unusedSimpArgs false
set_option linter.unusedVariables false
section
namespace Go.Proofs.YthdncmagfgoboaaGreatDoor
open Go.RowKit
set_option maxRecDepth 100000
set_option maxHeartbeats 8000000
abbrev StrC (tv : Value) (n : Nat) (r : Nat) (at_ u many high : Nat) (over : Bool) : Array Value := #[tv, .int .i64 n, .pointer (some ⟨r, 0, none⟩), .int .i64 at_, .int .u16 u, .int .i64 many, .int .u16 high, .bool over]
def bG (w : World) (p : Nat) (tv : Value) (n : Nat) (r : Nat) (at_ u many high : Nat) (over : Bool) : Prop := w.heap[p]? = some (.cells (StrC tv n r at_ u many high over) 130 (0, 0))
theorem gO (a b : List UInt8) : bM (a ++ b) = bM a ++ bM b := by unfold bM; simp
theorem nS (p r n at_ u many high : Nat) (over : Bool) (T : List UInt8) (tv : Value) (g : Option Nat) (z : Int) (hz : 0 ≤ z) (w : World) (h : bG w p tv n r at_ u many high over) (hs : SlAt w 5 1 tv T.length (bM T) g) (hg : ∀ k, g = some k → k ≠ p) (hT : T.length ≤ 1000000) (hn : n ≤ 1000000) :
 Calls Tryz.prog 113 #[.pointer (some ⟨p, 0, none⟩), .int .i32 z] w fun e w' => e = .returned (.tuple #[]) ∧ ∃ g' tv', bG w' p tv' (n + 1) r 0 u many 0 over ∧ SlAt w' 5 1 tv' (T ++ Sq.enc z.toNat).length (bM (T ++ Sq.enc z.toNat)) g' ∧ cK w g g' ∧ Touch (p :: g.toList) w w' := by
 obtain ⟨A, C, rfl, _⟩ := hs.form
 have hby := fun w => lX z hz w
 have hel := Sq.enc_len z.toNat
 generalize Sq.enc z.toNat = E at *
 have h0 := h
 unfold bG at h
 have ⟨c0,c1,c2,c3,c4,c5,c6,c7⟩ := cs8 h
 have ⟨f0,f1,f2,f3,f4,f5,f6,f7⟩ := fs8 h
 have lb := aB h
 try simp [StrC] at c0 c1 c2 c3 c4 c5 c6 c7
 have hpg : p ∉ g.toList := fun q => by
  cases g with
  | none => simp at q
  | some j => simp at q; exact hg j rfl q.symm
 go_enter Tryz.func113, Tryz.ntmps113
 go_wp2_with fail
 go_region_law (first
  | (refine kO cA rfl (.tmp 8) (.tmp 10) rfl rfl hs1 rfl hV (by omega) ?_; intro ad2 c2' w2 g2 hs2 ht2 hn2; rw [← gO] at hs2; have hA2 := ht2.keep hA1 hpg; have m0 := aN hA2 0; have n0 := aQ hA2 0; have l2 := aB hA2; simp [StrC] at m0)
  | (go_simp; go_at_call 138; refine (hby _).mono ?_; rintro e w1 ⟨v, rfl, hV, ht1⟩; have hT1 : Touch [] w w1 := Touch.trans (by repeat (first | exact Touch.refl _ _ | apply Touch.drew)) ht1; have hA1 := hT1.keep h0 (by simp); have hs1 := hs.keep hT1 (by simp); have k0 := aN hA1 0; simp [StrC] at k0; unfold jB at hV; try go_simp))
 all_goals
  have hA3 : bG (w2.setCell ⟨p, 0, none⟩ (.slice ad2 (T.length + E.length) c2')) p (.slice ad2 (T.length + E.length) c2') n r at_ u many high over := aF hA2 0 _
  have hT3 : Touch (p :: g.toList) w (w2.setCell ⟨p, 0, none⟩ (.slice ad2 (T.length + E.length) c2')) := Touch.setCell (Touch.step (hT1.mono (by simp)) ht2 (fun k hk => .inl (by simp at hk; simp [hk]))) (by simp) _
  have hg2 : ∀ k, g2 = some k → k ≠ p := bX hn2 hg (by have := hT1.size; omega)
  have hs3 : SlAt (w2.setCell ⟨p, 0, none⟩ (.slice ad2 (T.length + E.length) c2')) 5 1 (.slice ad2 (T.length + E.length) c2') (T.length + E.length) (bM (T ++ E)) g2 := hs2.keep (Touch.setCell (F := [p]) (Touch.refl _ _) (p := ⟨p, 0, none⟩) (by simp) _) (fun k hk => by simpa using hg2 k hk)
  have hN : cK w g g2 := cE hn2 hT1.size
  generalize (w2.setCell ⟨p, 0, none⟩ (.slice ad2 (T.length + E.length) c2')) = W at hA3 hT3 hs3 ⊢
  clear c0 c1 c2 c3 c4 c5 c6 c7 f0 f1 f2 f3 f4 f5 f6 f7 lb m0 n0 l2 k0 hA2 hA1 hs1 hs2 ht2 hn2 hV hT1 ht1 h0
  have hA4 := hA3
  unfold bG at hA4
  have ⟨c0,c1,c2,c3,c4,c5,c6,c7⟩ := cs8 hA4
  have ⟨f0,f1,f2,f3,f4,f5,f6,f7⟩ := fs8 hA4
  have lb := aB hA4
  try simp [StrC] at c0 c1 c2 c3 c4 c5 c6 c7
  go_wp2
  refine bodyPost_end (results_none rfl _ _ _) rfl ⟨rfl, g2, _, aF (aF (aF hA4 1 _) 3 _) 6 _, ?_, hN, ?_⟩
  · rw [List.length_append]
    have hm : ∀ (W' : World) (i : Nat) (v : Value), SlAt W' 5 1 (.slice ad2 (T.length + E.length) c2') (T.length + E.length) (bM (T ++ E)) g2 → SlAt (W'.setCell ⟨p, i, none⟩ v) 5 1 (.slice ad2 (T.length + E.length) c2') (T.length + E.length) (bM (T ++ E)) g2 := fun W' i v h => h.keep (Touch.setCell (F := [p]) (Touch.refl _ _) (p := ⟨p, i, none⟩) (by simp) _) (fun k hk => by simpa using hg2 k hk)
    exact hm _ _ _ (hm _ _ _ (hm _ _ _ hs3))
  · exact ((hT3.setCell (by simp) _).setCell (by simp) _).setCell (by simp) _
def escL : List MapEntry := [⟨.int .u8 34, .func (.func 130) #[] #[], 0⟩, ⟨.int .u8 92, .func (.func 130) #[] #[], 1⟩, ⟨.int .u8 47, .func (.func 130) #[] #[], 2⟩, ⟨.int .u8 98, .func (.func 131) #[] #[], 3⟩, ⟨.int .u8 102, .func (.func 132) #[] #[], 4⟩, ⟨.int .u8 110, .func (.func 133) #[] #[], 5⟩, ⟨.int .u8 114, .func (.func 134) #[] #[], 6⟩, ⟨.int .u8 116, .func (.func 135) #[] #[], 7⟩, ⟨.int .u8 117, .func (.func 136) #[] #[], 8⟩]
def escM (i : Nat) : Array MapEntry := (escL.take i).toArray
theorem xC {P : Program} {W : World} {r : Nat} {es : Array MapEntry} {c : Nat} (h : W.heap[r]? = some (.map es c)) : (getObj r).run P W = .ok (.map es c) W := by simp [getObj, Sem.run, h]
theorem setMap {P : Program} {W : World} {r : Nat} {es : Array MapEntry} {c : Nat} (o : Obj) (h : W.heap[r]? = some (.map es c)) : (setObj r o).run P W = .ok () { W with heap := W.heap.setIfInBounds r o } := by simp [setObj, Sem.run, h]
theorem esc_key (i : Nat) (hi : i < 9) (k v : Value) (he : escL[i]? = some ⟨k, v, i⟩) : (∀ w, (Instr.checkKey false 10000 5 k).run Tryz.prog w = .ok () w) ∧ (∀ w, (Instr.findKey 5 k (escM i).toList).run Tryz.prog w = .ok none w) := by
 match i, hi with
 | 0, _ | 1, _ | 2, _ | 3, _ | 4, _ | 5, _ | 6, _ | 7, _ | 8, _ =>
  simp [escL] at he
  obtain ⟨rfl, rfl⟩ := he
  exact ⟨fun w => by kernel_rfl, fun w => by kernel_rfl⟩
theorem dY (i : Nat) (hi : i < 9) (k v : Value) (he : escL[i]? = some ⟨k, v, i⟩) (w : World) : (Instr.mapUpdate 168 (.map (some w.heap.size)) k v).run Tryz.prog (w.alloc (.map (escM i) i)) = .ok () (w.alloc (.map (escM (i + 1)) (i + 1))) := by
 have hb := aZ w (.map (escM i) i)
 have hu : ∀ w, (underlying 168).run Tryz.prog w = .ok (.map 5 166) w := fun w => by kernel_rfl
 obtain ⟨hc, hf⟩ := esc_key i hi k v he
 have hg := xC (P := Tryz.prog) hb
 have hs : ∀ o, (setObj w.heap.size o).run Tryz.prog (w.alloc (.map (escM i) i)) = .ok () (w.alloc o) := fun o => by
  rw [setMap o hb]
  congr 1
  unfold World.alloc
  congr 1
  apply Array.ext_getElem?
  intro j
  simp only [Array.getElem?_setIfInBounds, Array.getElem?_push, Array.size_push]
  by_cases hj : w.heap.size = j
  · subst hj; simp
  · simp [hj, Ne.symm hj]
 have hM : escM (i + 1) = (escM i).push ⟨k, v, i⟩ := by
  unfold escM
  rw [List.take_add_one, he]
  simp
 unfold Instr.mapUpdate
 simp only [Sem.run_bind, hu, Result.andThen_ok, hg, hc, hf, hs, hM]
theorem eS (w : World) : Calls Tryz.prog 109 #[] w fun e w' => e = .returned (.map (some w.heap.size)) ∧ w' = w.alloc (.map (escM 9) 9) := by
 have hmm : ∀ w, (Instr.makeMap 168 none).run Tryz.prog w = .ok (.map (some w.heap.size)) (w.alloc (.map (escM 0) 0)) := fun w => rfl
 have i0 := dY 0 (by decide) _ _ rfl
 have i1 := dY 1 (by decide) _ _ rfl
 have i2 := dY 2 (by decide) _ _ rfl
 have i3 := dY 3 (by decide) _ _ rfl
 have i4 := dY 4 (by decide) _ _ rfl
 have i5 := dY 5 (by decide) _ _ rfl
 have i6 := dY 6 (by decide) _ _ rfl
 have i7 := dY 7 (by decide) _ _ rfl
 have i8 := dY 8 (by decide) _ _ rfl
 simp only [Nat.reduceAdd] at i0 i1 i2 i3 i4 i5 i6 i7 i8
 refine aA Tryz.func109 rfl ?_
 intro Q_ hQ_
 simp only [Tryz.ntmps109, ents_, Nat.reduceAdd, Nat.reduceSub]
 go_wp2
 refine hQ_.ret (results_tmp rfl _ _ _) rfl ?_
 exact ⟨rfl, rfl⟩
theorem qW {W : World} {b : Nat} (h : W.heap[b]? = some (.map (escM 9) 9)) (x : Int) (v : Value) (ok : Bool) (hf : ∀ w, (Instr.findKey 5 (.int .u8 x) (escM 9).toList).run Tryz.prog w = .ok (if ok = true then some (0, v) else none) w ∨ (ok = true ∧ ∃ i, (Instr.findKey 5 (.int .u8 x) (escM 9).toList).run Tryz.prog w = .ok (some (i, v)) w)) (hv : ok = false → v = .nilFunc) :
 (Instr.lookup 168 (.map (some b)) (.int .u8 x) true).run Tryz.prog W = .ok (.tuple #[v, .bool ok]) W := by
 have hu : ∀ w, (underlying 168).run Tryz.prog w = .ok (.map 5 166) w := fun w => by kernel_rfl
 have hc : ∀ e w, (Instr.checkKey e 10000 5 (.int .u8 x)).run Tryz.prog w = .ok () w := fun e w => by kernel_rfl
 have hz : ∀ w, (zeroValue 166).run Tryz.prog w = .ok .nilFunc w := fun w => by kernel_rfl
 have hg := xC (P := Tryz.prog) h
 unfold Instr.lookup
 rcases hf W with hf | ⟨rfl, i, hf⟩
 · cases ok
   · simp only [Bool.false_eq_true, if_false] at hf
     rw [hv rfl]
     simp [Sem.run_bind, hu, Result.andThen_ok, hg, hc, hf, hz]
   · simp only [if_true] at hf
     simp [Sem.run_bind, hu, Result.andThen_ok, hg, hc, hf, hz]
 · simp [Sem.run_bind, hu, Result.andThen_ok, hg, hc, hf, hz]
theorem xE (x : Int) (h : x ≠ 34 ∧ x ≠ 92 ∧ x ≠ 47 ∧ x ≠ 98 ∧ x ≠ 102 ∧ x ≠ 110 ∧ x ≠ 114 ∧ x ≠ 116 ∧ x ≠ 117) (w : World) : (Instr.findKey 5 (.int .u8 x) (escM 9).toList).run Tryz.prog w = .ok none w := by
 obtain ⟨h1, h2, h3, h4, h5, h6, h7, h8, h9⟩ := h
 have hu : ∀ w, (underlying 5).run Tryz.prog w = .ok (.int .u8) w := fun w => by kernel_rfl
 have hb : ∀ y : Int, x ≠ y → (x == y) = false := fun y h => by rw [beq_eq_false_iff_ne]; exact h
 unfold Instr.findKey
 simp [Sem.run_bind, hu, Result.andThen_ok, escM, escL, Instr.findNow, Instr.sameNow, hb _ h1, hb _ h2, hb _ h3, hb _ h4, hb _ h5, hb _ h6, hb _ h7, hb _ h8, hb _ h9]
theorem esc_no {W : World} {b : Nat} (h : W.heap[b]? = some (.map (escM 9) 9)) (x : Int) (hx : x ≠ 34 ∧ x ≠ 92 ∧ x ≠ 47 ∧ x ≠ 98 ∧ x ≠ 102 ∧ x ≠ 110 ∧ x ≠ 114 ∧ x ≠ 116 ∧ x ≠ 117) :
 (Instr.lookup 168 (.map (some b)) (.int .u8 x) true).run Tryz.prog W = .ok (.tuple #[.nilFunc, .bool false]) W :=
 qW h x .nilFunc false (fun w => .inl (xE x hx w)) (fun _ => rfl)
theorem oR {W : World} {b : Nat} (h : W.heap[b]? = some (.map (escM 9) 9)) (x : Int) (fn : Nat) (hx : (x = 34 ∧ fn = 130) ∨ (x = 92 ∧ fn = 130) ∨ (x = 47 ∧ fn = 130) ∨ (x = 98 ∧ fn = 131) ∨ (x = 102 ∧ fn = 132) ∨ (x = 110 ∧ fn = 133) ∨ (x = 114 ∧ fn = 134) ∨ (x = 116 ∧ fn = 135) ∨ (x = 117 ∧ fn = 136)) :
 (Instr.lookup 168 (.map (some b)) (.int .u8 x) true).run Tryz.prog W = .ok (.tuple #[.func (.func fn) #[] #[], .bool true]) W := by
 refine qW h x _ true (fun w => .inr ⟨rfl, ?_⟩) (fun q => by cases q)
 rcases hx with ⟨rfl, rfl⟩ | ⟨rfl, rfl⟩ | ⟨rfl, rfl⟩ | ⟨rfl, rfl⟩ | ⟨rfl, rfl⟩ | ⟨rfl, rfl⟩ | ⟨rfl, rfl⟩ | ⟨rfl, rfl⟩ | ⟨rfl, rfl⟩
 · exact ⟨0, by kernel_rfl⟩
 · exact ⟨1, by kernel_rfl⟩
 · exact ⟨2, by kernel_rfl⟩
 · exact ⟨3, by kernel_rfl⟩
 · exact ⟨4, by kernel_rfl⟩
 · exact ⟨5, by kernel_rfl⟩
 · exact ⟨6, by kernel_rfl⟩
 · exact ⟨7, by kernel_rfl⟩
 · exact ⟨8, by kernel_rfl⟩
end Go.Proofs.YthdncmagfgoboaaGreatDoor
end

section
namespace Go.Proofs.YthdncmagfgoboaaGreatDoor
open Go.RowKit
set_option maxRecDepth 100000
set_option maxHeartbeats 8000000
theorem rM (p : Nat) (x : Int) (h0 : 0 ≤ x) (h1 : x < 256) (R : World → Prop) (w : World) (hsay : Calls Tryz.prog 113 #[.pointer (some ⟨p, 0, none⟩), .int .i32 x] w fun e w' => e = .returned (.tuple #[]) ∧ R w') : Calls Tryz.prog 130 #[.pointer (some ⟨p, 0, none⟩), .int .u8 x] w fun e w' => e = .returned (.tuple #[]) ∧ R w' := by
 refine aA Tryz.func130 rfl ?_
 intro Q_ hQ_
 simp only [Tryz.ntmps130, ents_, Nat.reduceAdd, Nat.reduceSub]
 go_wp2_with fail
 refine hsay.mono ?_
 rintro e w1 ⟨rfl, hR⟩
 try go_simp
 go_wp2
 refine hQ_.fin (results_none rfl _ _ _) rfl ?_
 exact ⟨rfl, hR⟩
theorem back_w (p : Nat) (x : Int) (R : World → Prop) (w : World) (hsay : Calls Tryz.prog 113 #[.pointer (some ⟨p, 0, none⟩), .int .i32 8] w fun e w' => e = .returned (.tuple #[]) ∧ R w') : Calls Tryz.prog 131 #[.pointer (some ⟨p, 0, none⟩), .int .u8 x] w fun e w' => e = .returned (.tuple #[]) ∧ R w' := by
 refine aA Tryz.func131 rfl ?_
 intro Q_ hQ_
 simp only [Tryz.ntmps131, ents_, Nat.reduceAdd, Nat.reduceSub]
 go_wp2_with fail
 refine hsay.mono ?_
 rintro e w1 ⟨rfl, hR⟩
 try go_simp
 go_wp2
 refine hQ_.fin (results_none rfl _ _ _) rfl ?_
 exact ⟨rfl, hR⟩
theorem feed_w (p : Nat) (x : Int) (R : World → Prop) (w : World) (hsay : Calls Tryz.prog 113 #[.pointer (some ⟨p, 0, none⟩), .int .i32 12] w fun e w' => e = .returned (.tuple #[]) ∧ R w') : Calls Tryz.prog 132 #[.pointer (some ⟨p, 0, none⟩), .int .u8 x] w fun e w' => e = .returned (.tuple #[]) ∧ R w' := by
 refine aA Tryz.func132 rfl ?_
 intro Q_ hQ_
 simp only [Tryz.ntmps132, ents_, Nat.reduceAdd, Nat.reduceSub]
 go_wp2_with fail
 refine hsay.mono ?_
 rintro e w1 ⟨rfl, hR⟩
 try go_simp
 go_wp2
 refine hQ_.fin (results_none rfl _ _ _) rfl ?_
 exact ⟨rfl, hR⟩
theorem line_w (p : Nat) (x : Int) (R : World → Prop) (w : World) (hsay : Calls Tryz.prog 113 #[.pointer (some ⟨p, 0, none⟩), .int .i32 10] w fun e w' => e = .returned (.tuple #[]) ∧ R w') : Calls Tryz.prog 133 #[.pointer (some ⟨p, 0, none⟩), .int .u8 x] w fun e w' => e = .returned (.tuple #[]) ∧ R w' := by
 refine aA Tryz.func133 rfl ?_
 intro Q_ hQ_
 simp only [Tryz.ntmps133, ents_, Nat.reduceAdd, Nat.reduceSub]
 go_wp2_with fail
 refine hsay.mono ?_
 rintro e w1 ⟨rfl, hR⟩
 try go_simp
 go_wp2
 refine hQ_.fin (results_none rfl _ _ _) rfl ?_
 exact ⟨rfl, hR⟩
theorem turn_w (p : Nat) (x : Int) (R : World → Prop) (w : World) (hsay : Calls Tryz.prog 113 #[.pointer (some ⟨p, 0, none⟩), .int .i32 13] w fun e w' => e = .returned (.tuple #[]) ∧ R w') : Calls Tryz.prog 134 #[.pointer (some ⟨p, 0, none⟩), .int .u8 x] w fun e w' => e = .returned (.tuple #[]) ∧ R w' := by
 refine aA Tryz.func134 rfl ?_
 intro Q_ hQ_
 simp only [Tryz.ntmps134, ents_, Nat.reduceAdd, Nat.reduceSub]
 go_wp2_with fail
 refine hsay.mono ?_
 rintro e w1 ⟨rfl, hR⟩
 try go_simp
 go_wp2
 refine hQ_.fin (results_none rfl _ _ _) rfl ?_
 exact ⟨rfl, hR⟩
theorem tab_w (p : Nat) (x : Int) (R : World → Prop) (w : World) (hsay : Calls Tryz.prog 113 #[.pointer (some ⟨p, 0, none⟩), .int .i32 9] w fun e w' => e = .returned (.tuple #[]) ∧ R w') : Calls Tryz.prog 135 #[.pointer (some ⟨p, 0, none⟩), .int .u8 x] w fun e w' => e = .returned (.tuple #[]) ∧ R w' := by
 refine aA Tryz.func135 rfl ?_
 intro Q_ hQ_
 simp only [Tryz.ntmps135, ents_, Nat.reduceAdd, Nat.reduceSub]
 go_wp2_with fail
 refine hsay.mono ?_
 rintro e w1 ⟨rfl, hR⟩
 try go_simp
 go_wp2
 refine hQ_.fin (results_none rfl _ _ _) rfl ?_
 exact ⟨rfl, hR⟩
theorem tD (p r n at_ u many high : Nat) (over : Bool) (tv : Value) (x : Int) (w : World) (h : bG w p tv n r at_ u many high over) : Calls Tryz.prog 136 #[.pointer (some ⟨p, 0, none⟩), .int .u8 x] w fun e w' => e = .returned (.tuple #[]) ∧ bG w' p tv n r 2 0 0 high over ∧ Touch [p] w w' := by
 have h0 := h
 unfold bG at h
 have ⟨c0,c1,c2,c3,c4,c5,c6,c7⟩ := cs8 h
 have ⟨f0,f1,f2,f3,f4,f5,f6,f7⟩ := fs8 h
 have lb := aB h
 try simp [StrC] at c0 c1 c2 c3 c4 c5 c6 c7
 refine aA Tryz.func136 rfl ?_
 intro Q_ hQ_
 simp only [Tryz.ntmps136, ents_, Nat.reduceAdd, Nat.reduceSub]
 go_wp2
 refine hQ_.fin (results_none rfl _ _ _) rfl ?_
 exact ⟨rfl, aF (aF (aF h0 3 _) 4 _) 5 _, (((Touch.refl _ _).setCell (by simp) _).setCell (by simp) _).setCell (by simp) _⟩
theorem xF (x : UInt8) (c : Nat) (hc : Sq.simple x = some c) : ∃ fn : Nat, ((x.toNat : Int) = 34 ∧ fn = 130) ∨ ((x.toNat : Int) = 92 ∧ fn = 130) ∨ ((x.toNat : Int) = 47 ∧ fn = 130) ∨ ((x.toNat : Int) = 98 ∧ fn = 131) ∨ ((x.toNat : Int) = 102 ∧ fn = 132) ∨ ((x.toNat : Int) = 110 ∧ fn = 133) ∨ ((x.toNat : Int) = 114 ∧ fn = 134) ∨ ((x.toNat : Int) = 116 ∧ fn = 135) := by
 unfold Sq.simple at hc
 by_cases h1 : x = 34; · subst h1; exact ⟨_, .inl ⟨rfl, rfl⟩⟩
 by_cases h2 : x = 92; · subst h2; exact ⟨_, .inr (.inl ⟨rfl, rfl⟩)⟩
 by_cases h3 : x = 47; · subst h3; exact ⟨_, .inr (.inr (.inl ⟨rfl, rfl⟩))⟩
 by_cases h4 : x = 98; · subst h4; exact ⟨_, .inr (.inr (.inr (.inl ⟨rfl, rfl⟩)))⟩
 by_cases h5 : x = 102; · subst h5; exact ⟨_, .inr (.inr (.inr (.inr (.inl ⟨rfl, rfl⟩))))⟩
 by_cases h6 : x = 110; · subst h6; exact ⟨_, .inr (.inr (.inr (.inr (.inr (.inl ⟨rfl, rfl⟩)))))⟩
 by_cases h7 : x = 114; · subst h7; exact ⟨_, .inr (.inr (.inr (.inr (.inr (.inr (.inl ⟨rfl, rfl⟩))))))⟩
 by_cases h8 : x = 116; · subst h8; exact ⟨_, .inr (.inr (.inr (.inr (.inr (.inr (.inr ⟨rfl, rfl⟩))))))⟩
 rw [if_neg h1, if_neg h2, if_neg h3, if_neg h4, if_neg h5, if_neg h6, if_neg h7, if_neg h8] at hc
 cases hc
theorem uO (p : Nat) (x : UInt8) (c fn : Nat) (hc : Sq.simple x = some c) (R : World → Prop) (w : World) (hfn : ((x.toNat : Int) = 34 ∧ fn = 130) ∨ ((x.toNat : Int) = 92 ∧ fn = 130) ∨ ((x.toNat : Int) = 47 ∧ fn = 130) ∨ ((x.toNat : Int) = 98 ∧ fn = 131) ∨ ((x.toNat : Int) = 102 ∧ fn = 132) ∨ ((x.toNat : Int) = 110 ∧ fn = 133) ∨ ((x.toNat : Int) = 114 ∧ fn = 134) ∨ ((x.toNat : Int) = 116 ∧ fn = 135))
 (hsay : Calls Tryz.prog 113 #[.pointer (some ⟨p, 0, none⟩), .int .i32 c] w fun e w' => e = .returned (.tuple #[]) ∧ R w') : Calls Tryz.prog fn #[.pointer (some ⟨p, 0, none⟩), .int .u8 x.toNat] w fun e w' => e = .returned (.tuple #[]) ∧ R w' := by
 have key : ∀ k : Nat, k < 256 → (x.toNat : Int) = k → x = UInt8.ofNat k := fun k hk h => UInt8.toNat_inj.1 (by rw [UInt8.toNat_ofNat']; omega)
 have hx := x.toNat_lt
 rcases hfn with ⟨h, rfl⟩ | ⟨h, rfl⟩ | ⟨h, rfl⟩ | ⟨h, rfl⟩ | ⟨h, rfl⟩ | ⟨h, rfl⟩ | ⟨h, rfl⟩ | ⟨h, rfl⟩
 · have := key 34 (by decide) h; subst this; cases hc; exact rM p _ (by decide) (by decide) R w hsay
 · have := key 92 (by decide) h; subst this; cases hc; exact rM p _ (by decide) (by decide) R w hsay
 · have := key 47 (by decide) h; subst this; cases hc; exact rM p _ (by decide) (by decide) R w hsay
 · have := key 98 (by decide) h; subst this; cases hc; exact back_w p _ R w hsay
 · have := key 102 (by decide) h; subst this; cases hc; exact feed_w p _ R w hsay
 · have := key 110 (by decide) h; subst this; cases hc; exact line_w p _ R w hsay
 · have := key 114 (by decide) h; subst this; cases hc; exact turn_w p _ R w hsay
 · have := key 116 (by decide) h; subst this; cases hc; exact tab_w p _ R w hsay
end Go.Proofs.YthdncmagfgoboaaGreatDoor
end

section
namespace Go.Proofs.YthdncmagfgoboaaGreatDoor
open Go.RowKit
set_option maxRecDepth 100000
set_option maxHeartbeats 8000000
def dT (H0 L NS NU J4 NC : Bool) : Nat := if (!H0 && !L) || (H0 && L && NS) then 5 else if H0 && NU then 6 else if J4 && NC then 6 else 0
theorem wrong_4 (p r n at_ u' many' high u : Nat) (over : Bool) (tv : Value) (H0 L NU J NC : Bool) (C : Int) (w : World) (h : bG w p tv n r at_ u' many' high over) (hH0 : (high == 0) = H0)
 (hL : ∀ w, Calls Tryz.prog 137 #[.int .u16 u] w fun e w' => e = .returned (.bool L) ∧ w = w') (hU : ∀ w, Calls Tryz.prog 116 #[.int .i32 u] w fun e w' => e = .returned (.bool NU) ∧ w = w')
 (hJ : ∀ w, Calls Tryz.prog 112 #[.int .u16 high, .int .u16 u] w fun e w' => e = .returned (.tuple #[.int .i32 C, .bool J]) ∧ w = w') (hC : ∀ w, Calls Tryz.prog 116 #[.int .i32 C] w fun e w' => e = .returned (.bool NC) ∧ w = w') (hu : u < 65536) :
 Calls Tryz.prog 111 #[.pointer (some ⟨p, 0, none⟩), .int .u16 u, .int .i64 4] w fun e w' => e = .returned (.int .i64 (dT H0 L true NU J NC)) ∧ w = w' := by
 have h0 := h
 unfold bG at h
 have ⟨c0,c1,c2,c3,c4,c5,c6,c7⟩ := cs8 h
 have ⟨f0,f1,f2,f3,f4,f5,f6,f7⟩ := fs8 h
 have lb := aB h
 try simp [StrC] at c0 c1 c2 c3 c4 c5 c6 c7
 have e0 : ((high : Int) == 0) = H0 := by rw [← hH0]; rw [Bool.eq_iff_iff]; simp
 have e1 : ((high : Int) != 0) = !H0 := by rw [← hH0]; rw [Bool.eq_iff_iff]; simp
 clear hH0 h
 cases H0 <;> simp only [Bool.not_true, Bool.not_false] at e1
 · cases L
   ·
    refine aA Tryz.func111 rfl ?_
    intro Q_ hQ_
    simp only [Tryz.ntmps111, ents_, Nat.reduceAdd, Nat.reduceSub]
    go_wp2_with fail
    refine (hL _).mono ?_
    rintro e w1 ⟨rfl, rfl⟩
    try go_simp
    go_wp2
    refine hQ_.ret (results_tmp rfl _ _ _) rfl ?_
    exact ⟨rfl, rfl⟩
   · cases J
     ·
      refine aA Tryz.func111 rfl ?_
      intro Q_ hQ_
      simp only [Tryz.ntmps111, ents_, Nat.reduceAdd, Nat.reduceSub]
      go_wp2_with fail
      refine (hL _).mono ?_
      rintro e w1 ⟨rfl, rfl⟩
      try go_simp
      go_wp2_with fail
      refine (hJ _).mono ?_
      rintro e w1 ⟨rfl, rfl⟩
      try go_simp
      go_wp2
      refine hQ_.ret (results_tmp rfl _ _ _) rfl ?_
      exact ⟨rfl, rfl⟩
     · cases NC
       ·
        refine aA Tryz.func111 rfl ?_
        intro Q_ hQ_
        simp only [Tryz.ntmps111, ents_, Nat.reduceAdd, Nat.reduceSub]
        go_wp2_with fail
        refine (hL _).mono ?_
        rintro e w1 ⟨rfl, rfl⟩
        try go_simp
        go_wp2_with fail
        refine (hJ _).mono ?_
        rintro e w1 ⟨rfl, rfl⟩
        try go_simp
        go_wp2_with fail
        refine (hC _).mono ?_
        rintro e w1 ⟨rfl, rfl⟩
        try go_simp
        go_wp2
        refine hQ_.ret (results_tmp rfl _ _ _) rfl ?_
        exact ⟨rfl, rfl⟩
       ·
        refine aA Tryz.func111 rfl ?_
        intro Q_ hQ_
        simp only [Tryz.ntmps111, ents_, Nat.reduceAdd, Nat.reduceSub]
        go_wp2_with fail
        refine (hL _).mono ?_
        rintro e w1 ⟨rfl, rfl⟩
        try go_simp
        go_wp2_with fail
        refine (hJ _).mono ?_
        rintro e w1 ⟨rfl, rfl⟩
        try go_simp
        go_wp2_with fail
        refine (hC _).mono ?_
        rintro e w1 ⟨rfl, rfl⟩
        try go_simp
        go_wp2
        refine hQ_.ret (results_tmp rfl _ _ _) rfl ?_
        exact ⟨rfl, rfl⟩
 · cases L
   · cases NU
     · cases J
       ·
        refine aA Tryz.func111 rfl ?_
        intro Q_ hQ_
        simp only [Tryz.ntmps111, ents_, Nat.reduceAdd, Nat.reduceSub]
        go_wp2_with fail
        refine (hL _).mono ?_
        rintro e w1 ⟨rfl, rfl⟩
        try go_simp
        go_wp2_with fail
        refine (hU _).mono ?_
        rintro e w1 ⟨rfl, rfl⟩
        try go_simp
        go_wp2_with fail
        refine (hJ _).mono ?_
        rintro e w1 ⟨rfl, rfl⟩
        try go_simp
        go_wp2
        refine hQ_.ret (results_tmp rfl _ _ _) rfl ?_
        exact ⟨rfl, rfl⟩
       · cases NC
         ·
          refine aA Tryz.func111 rfl ?_
          intro Q_ hQ_
          simp only [Tryz.ntmps111, ents_, Nat.reduceAdd, Nat.reduceSub]
          go_wp2_with fail
          refine (hL _).mono ?_
          rintro e w1 ⟨rfl, rfl⟩
          try go_simp
          go_wp2_with fail
          refine (hU _).mono ?_
          rintro e w1 ⟨rfl, rfl⟩
          try go_simp
          go_wp2_with fail
          refine (hJ _).mono ?_
          rintro e w1 ⟨rfl, rfl⟩
          try go_simp
          go_wp2_with fail
          refine (hC _).mono ?_
          rintro e w1 ⟨rfl, rfl⟩
          try go_simp
          go_wp2
          refine hQ_.ret (results_tmp rfl _ _ _) rfl ?_
          exact ⟨rfl, rfl⟩
         ·
          refine aA Tryz.func111 rfl ?_
          intro Q_ hQ_
          simp only [Tryz.ntmps111, ents_, Nat.reduceAdd, Nat.reduceSub]
          go_wp2_with fail
          refine (hL _).mono ?_
          rintro e w1 ⟨rfl, rfl⟩
          try go_simp
          go_wp2_with fail
          refine (hU _).mono ?_
          rintro e w1 ⟨rfl, rfl⟩
          try go_simp
          go_wp2_with fail
          refine (hJ _).mono ?_
          rintro e w1 ⟨rfl, rfl⟩
          try go_simp
          go_wp2_with fail
          refine (hC _).mono ?_
          rintro e w1 ⟨rfl, rfl⟩
          try go_simp
          go_wp2
          refine hQ_.ret (results_tmp rfl _ _ _) rfl ?_
          exact ⟨rfl, rfl⟩
     ·
      refine aA Tryz.func111 rfl ?_
      intro Q_ hQ_
      simp only [Tryz.ntmps111, ents_, Nat.reduceAdd, Nat.reduceSub]
      go_wp2_with fail
      refine (hL _).mono ?_
      rintro e w1 ⟨rfl, rfl⟩
      try go_simp
      go_wp2_with fail
      refine (hU _).mono ?_
      rintro e w1 ⟨rfl, rfl⟩
      try go_simp
      go_wp2
      refine hQ_.ret (results_tmp rfl _ _ _) rfl ?_
      exact ⟨rfl, rfl⟩
   ·
    refine aA Tryz.func111 rfl ?_
    intro Q_ hQ_
    simp only [Tryz.ntmps111, ents_, Nat.reduceAdd, Nat.reduceSub]
    go_wp2_with fail
    refine (hL _).mono ?_
    rintro e w1 ⟨rfl, rfl⟩
    try go_simp
    go_wp2
    refine hQ_.ret (results_tmp rfl _ _ _) rfl ?_
    exact ⟨rfl, rfl⟩
theorem wrong_1 (p r n at_ u' many' high u : Nat) (over : Bool) (tv : Value) (H0 L J : Bool) (C : Int) (w : World) (h : bG w p tv n r at_ u' many' high over) (hH0 : (high == 0) = H0) (hL : ((u : Int) == 13) = L)
 (hJ : ∀ w, Calls Tryz.prog 112 #[.int .u16 high, .int .u16 u] w fun e w' => e = .returned (.tuple #[.int .i32 C, .bool J]) ∧ w = w') :
 Calls Tryz.prog 111 #[.pointer (some ⟨p, 0, none⟩), .int .u16 u, .int .i64 1] w fun e w' => e = .returned (.int .i64 (dT H0 L false false false false)) ∧ w = w' := by
 have h0 := h
 unfold bG at h
 have ⟨c0,c1,c2,c3,c4,c5,c6,c7⟩ := cs8 h
 have ⟨f0,f1,f2,f3,f4,f5,f6,f7⟩ := fs8 h
 have lb := aB h
 try simp [StrC] at c0 c1 c2 c3 c4 c5 c6 c7
 have e0 : ((high : Int) == 0) = H0 := by rw [← hH0]; rw [Bool.eq_iff_iff]; simp
 have e1 : ((high : Int) != 0) = !H0 := by rw [← hH0]; rw [Bool.eq_iff_iff]; simp
 clear hH0 h
 cases H0 <;> simp only [Bool.not_true, Bool.not_false] at e1
 · cases L
   ·
    refine aA Tryz.func111 rfl ?_
    intro Q_ hQ_
    simp only [Tryz.ntmps111, ents_, Nat.reduceAdd, Nat.reduceSub]
    go_wp2
    refine hQ_.ret (results_tmp rfl _ _ _) rfl ?_
    exact ⟨rfl, rfl⟩
   · cases J
     all_goals
      refine aA Tryz.func111 rfl ?_
      intro Q_ hQ_
      simp only [Tryz.ntmps111, ents_, Nat.reduceAdd, Nat.reduceSub]
      go_wp2_with fail
      refine (hJ _).mono ?_
      rintro e w1 ⟨rfl, rfl⟩
      try go_simp
      go_wp2
      refine hQ_.ret (results_tmp rfl _ _ _) rfl ?_
      exact ⟨rfl, rfl⟩
 · cases L <;> cases J
   all_goals
    refine aA Tryz.func111 rfl ?_
    intro Q_ hQ_
    simp only [Tryz.ntmps111, ents_, Nat.reduceAdd, Nat.reduceSub]
    go_wp2_with fail
    refine (hJ _).mono ?_
    rintro e w1 ⟨rfl, rfl⟩
    try go_simp
    go_wp2
    refine hQ_.ret (results_tmp rfl _ _ _) rfl ?_
    exact ⟨rfl, rfl⟩
theorem wrong_2 (p r n at_ u' many' high u : Nat) (over : Bool) (tv : Value) (H0 L J : Bool) (C : Int) (w : World) (h : bG w p tv n r at_ u' many' high over) (hH0 : (high == 0) = H0)
 (hL : ∀ w, Calls Tryz.prog 137 #[.int .u16 ((u : Int) * 256 % 65536)] w fun e w' => e = .returned (.bool L) ∧ w = w')
 (hJ : ∀ w, Calls Tryz.prog 112 #[.int .u16 high, .int .u16 u] w fun e w' => e = .returned (.tuple #[.int .i32 C, .bool J]) ∧ w = w') :
 Calls Tryz.prog 111 #[.pointer (some ⟨p, 0, none⟩), .int .u16 u, .int .i64 2] w fun e w' => e = .returned (.int .i64 (dT H0 L true false false false)) ∧ w = w' := by
 have h0 := h
 unfold bG at h
 have ⟨c0,c1,c2,c3,c4,c5,c6,c7⟩ := cs8 h
 have ⟨f0,f1,f2,f3,f4,f5,f6,f7⟩ := fs8 h
 have lb := aB h
 try simp [StrC] at c0 c1 c2 c3 c4 c5 c6 c7
 have e0 : ((high : Int) == 0) = H0 := by rw [← hH0]; rw [Bool.eq_iff_iff]; simp
 have e1 : ((high : Int) != 0) = !H0 := by rw [← hH0]; rw [Bool.eq_iff_iff]; simp
 clear hH0 h
 cases H0 <;> simp only [Bool.not_true, Bool.not_false] at e1
 · cases L
   ·
    refine aA Tryz.func111 rfl ?_
    intro Q_ hQ_
    simp only [Tryz.ntmps111, ents_, Nat.reduceAdd, Nat.reduceSub]
    go_wp2_with fail
    refine (hL _).mono ?_
    rintro e w1 ⟨rfl, rfl⟩
    try go_simp
    go_wp2
    refine hQ_.ret (results_tmp rfl _ _ _) rfl ?_
    exact ⟨rfl, rfl⟩
   · cases J
     all_goals
      refine aA Tryz.func111 rfl ?_
      intro Q_ hQ_
      simp only [Tryz.ntmps111, ents_, Nat.reduceAdd, Nat.reduceSub]
      go_wp2_with fail
      refine (hL _).mono ?_
      rintro e w1 ⟨rfl, rfl⟩
      try go_simp
      go_wp2_with fail
      refine (hJ _).mono ?_
      rintro e w1 ⟨rfl, rfl⟩
      try go_simp
      go_wp2
      refine hQ_.ret (results_tmp rfl _ _ _) rfl ?_
      exact ⟨rfl, rfl⟩
 · cases L
   · cases J
     all_goals
      refine aA Tryz.func111 rfl ?_
      intro Q_ hQ_
      simp only [Tryz.ntmps111, ents_, Nat.reduceAdd, Nat.reduceSub]
      go_wp2_with fail
      refine (hL _).mono ?_
      rintro e w1 ⟨rfl, rfl⟩
      try go_simp
      go_wp2_with fail
      refine (hJ _).mono ?_
      rintro e w1 ⟨rfl, rfl⟩
      try go_simp
      go_wp2
      refine hQ_.ret (results_tmp rfl _ _ _) rfl ?_
      exact ⟨rfl, rfl⟩
   ·
    refine aA Tryz.func111 rfl ?_
    intro Q_ hQ_
    simp only [Tryz.ntmps111, ents_, Nat.reduceAdd, Nat.reduceSub]
    go_wp2_with fail
    refine (hL _).mono ?_
    rintro e w1 ⟨rfl, rfl⟩
    try go_simp
    go_wp2
    refine hQ_.ret (results_tmp rfl _ _ _) rfl ?_
    exact ⟨rfl, rfl⟩
theorem wrong_3 (p r n at_ u' many' high u : Nat) (over : Bool) (tv : Value) (H0 L J A B : Bool) (C : Int) (w : World) (h : bG w p tv n r at_ u' many' high over) (hH0 : (high == 0) = H0) (hA : ((u : Int) == 4061) = A) (hB : ((u : Int) == 4062) = B)
 (hL : ∀ w, Calls Tryz.prog 137 #[.int .u16 ((u : Int) * 16 % 65536)] w fun e w' => e = .returned (.bool L) ∧ w = w')
 (hJ : ∀ w, Calls Tryz.prog 112 #[.int .u16 high, .int .u16 u] w fun e w' => e = .returned (.tuple #[.int .i32 C, .bool J]) ∧ w = w') :
 Calls Tryz.prog 111 #[.pointer (some ⟨p, 0, none⟩), .int .u16 u, .int .i64 3] w fun e w' => e = .returned (.int .i64 (dT H0 L true (A || B) false false)) ∧ w = w' := by
 have h0 := h
 unfold bG at h
 have ⟨c0,c1,c2,c3,c4,c5,c6,c7⟩ := cs8 h
 have ⟨f0,f1,f2,f3,f4,f5,f6,f7⟩ := fs8 h
 have lb := aB h
 try simp [StrC] at c0 c1 c2 c3 c4 c5 c6 c7
 have e0 : ((high : Int) == 0) = H0 := by rw [← hH0]; rw [Bool.eq_iff_iff]; simp
 have e1 : ((high : Int) != 0) = !H0 := by rw [← hH0]; rw [Bool.eq_iff_iff]; simp
 clear hH0 h
 cases H0 <;> simp only [Bool.not_true, Bool.not_false] at e1
 · cases L
   ·
    refine aA Tryz.func111 rfl ?_
    intro Q_ hQ_
    simp only [Tryz.ntmps111, ents_, Nat.reduceAdd, Nat.reduceSub]
    go_wp2_with fail
    refine (hL _).mono ?_
    rintro e w1 ⟨rfl, rfl⟩
    try go_simp
    go_wp2
    refine hQ_.ret (results_tmp rfl _ _ _) rfl ?_
    exact ⟨rfl, rfl⟩
   · cases J <;> cases A <;> cases B
     all_goals
      refine aA Tryz.func111 rfl ?_
      intro Q_ hQ_
      simp only [Tryz.ntmps111, ents_, Nat.reduceAdd, Nat.reduceSub]
      go_wp2_with fail
      refine (hL _).mono ?_
      rintro e w1 ⟨rfl, rfl⟩
      try go_simp
      go_wp2_with fail
      refine (hJ _).mono ?_
      rintro e w1 ⟨rfl, rfl⟩
      try go_simp
      go_wp2
      refine hQ_.ret (results_tmp rfl _ _ _) rfl ?_
      exact ⟨rfl, rfl⟩
 · cases L
   · cases A
     · cases B
       · cases J
         all_goals
          refine aA Tryz.func111 rfl ?_
          intro Q_ hQ_
          simp only [Tryz.ntmps111, ents_, Nat.reduceAdd, Nat.reduceSub]
          go_wp2_with fail
          refine (hL _).mono ?_
          rintro e w1 ⟨rfl, rfl⟩
          try go_simp
          go_wp2_with fail
          refine (hJ _).mono ?_
          rintro e w1 ⟨rfl, rfl⟩
          try go_simp
          go_wp2
          refine hQ_.ret (results_tmp rfl _ _ _) rfl ?_
          exact ⟨rfl, rfl⟩
       ·
        refine aA Tryz.func111 rfl ?_
        intro Q_ hQ_
        simp only [Tryz.ntmps111, ents_, Nat.reduceAdd, Nat.reduceSub]
        go_wp2_with fail
        refine (hL _).mono ?_
        rintro e w1 ⟨rfl, rfl⟩
        try go_simp
        go_wp2
        refine hQ_.ret (results_tmp rfl _ _ _) rfl ?_
        exact ⟨rfl, rfl⟩
     · cases B
       all_goals
        refine aA Tryz.func111 rfl ?_
        intro Q_ hQ_
        simp only [Tryz.ntmps111, ents_, Nat.reduceAdd, Nat.reduceSub]
        go_wp2_with fail
        refine (hL _).mono ?_
        rintro e w1 ⟨rfl, rfl⟩
        try go_simp
        go_wp2
        refine hQ_.ret (results_tmp rfl _ _ _) rfl ?_
        exact ⟨rfl, rfl⟩
   · cases A <;> cases B
     all_goals
      refine aA Tryz.func111 rfl ?_
      intro Q_ hQ_
      simp only [Tryz.ntmps111, ents_, Nat.reduceAdd, Nat.reduceSub]
      go_wp2_with fail
      refine (hL _).mono ?_
      rintro e w1 ⟨rfl, rfl⟩
      try go_simp
      go_wp2
      refine hQ_.ret (results_tmp rfl _ _ _) rfl ?_
      exact ⟨rfl, rfl⟩
end Go.Proofs.YthdncmagfgoboaaGreatDoor
end

section
namespace Go.Proofs.YthdncmagfgoboaaGreatDoor
open Go.RowKit
set_option maxRecDepth 100000
set_option maxHeartbeats 8000000
def dU (h u : Nat) : Int := if (Sq.high h && Sq.low u) = true then (Sq.join h u : Int) else 0
theorem iP (h u : Nat) (w : World) : Calls Tryz.prog 112 #[.int .u16 h, .int .u16 u] w fun e w' => e = .returned (.tuple #[.int .i32 (dU h u), .bool (Sq.high h && Sq.low u)]) ∧ w = w' := by
 unfold dU
 cases hb : (Sq.high h && Sq.low u) with
 | true =>
  simp at hb
  rw [if_pos rfl]
  exact tH h u hb.1 hb.2 w
 | false =>
  rw [if_neg (by simp)]
  exact vI h u hb w
theorem join_lt {h u : Nat} (hh : Sq.high h = true) (hl : Sq.low u = true) : Sq.join h u < 1114112 := by
 simp [Sq.high] at hh
 simp [Sq.low] at hl
 unfold Sq.join
 omega
theorem eX (p r n at_ u' many' high u m : Nat) (over : Bool) (tv : Value) (w : World) (h : bG w p tv n r at_ u' many' high over) (hm : 1 ≤ m) (hm4 : m ≤ 4) (hu : u < 65536) :
 Calls Tryz.prog 111 #[.pointer (some ⟨p, 0, none⟩), .int .u16 u, .int .i64 m] w fun e w' => e = .returned (.int .i64 (Sq.pwrong high u m)) ∧ w = w' := by
 have hj := fun w => iP high u w
 have hb : ∀ a b : Nat, (((a : Int) == (b : Int)) = decide (a = b)) := fun a b => by rw [Bool.eq_iff_iff]; simp; omega
 obtain rfl | rfl | rfl | rfl : m = 1 ∨ m = 2 ∨ m = 3 ∨ m = 4 := by omega
 · have e : Sq.pwrong high u 1 = dT (high == 0) (decide (u = 13)) false false false false := by
    unfold Sq.pwrong dT Sq.plow
    by_cases h1 : high = 0 <;> by_cases h2 : u = 13 <;> simp [h1, h2]
   rw [e]
   exact wrong_1 p r n at_ u' many' high u over tv _ _ _ _ w h rfl (hb u 13) hj
 · have hlow := fun w => fS (u * 16 ^ (4 - 2) % 65536) w
   have e : Sq.pwrong high u 2 = dT (high == 0) (Sq.low (u * 16 ^ (4 - 2) % 65536)) true false false false := by
    unfold Sq.pwrong dT Sq.plow
    generalize Sq.low (u * 16 ^ (4 - 2) % 65536) = L
    by_cases h1 : high = 0 <;> cases L <;> simp [h1]
   rw [e]
   rw [show (((u * 16 ^ (4 - 2) % 65536 : Nat)) : Int) = (u : Int) * 256 % 65536 by omega] at hlow
   exact wrong_2 p r n at_ u' many' high u over tv _ _ _ _ w h rfl hlow hj
 · have hlow := fun w => fS (u * 16 ^ (4 - 3) % 65536) w
   have e : Sq.pwrong high u 3 = dT (high == 0) (Sq.low (u * 16 ^ (4 - 3) % 65536)) true (decide (u = 4061) || decide (u = 4062)) false false := by
    unfold Sq.pwrong dT Sq.plow
    generalize Sq.low (u * 16 ^ (4 - 3) % 65536) = L
    by_cases h1 : high = 0 <;> by_cases h2 : u = 4061 <;> by_cases h3 : u = 4062 <;> cases L <;> simp [h1, h2, h3]
   rw [e]
   rw [show (((u * 16 ^ (4 - 3) % 65536 : Nat)) : Int) = (u : Int) * 16 % 65536 by omega] at hlow
   exact wrong_3 p r n at_ u' many' high u over tv _ _ _ _ _ _ w h rfl (hb u 4061) (hb u 4062) hlow hj
 · have hlow := fun w => fS u w
   have hn := fun w => hI (u : Int) (by omega) (by omega) w
   have hjb : 0 ≤ dU high u ∧ dU high u < 2147483648 := by
    unfold dU
    split
    · rename_i h1
      simp at h1
      have := join_lt h1.1 h1.2
      omega
    · omega
   have hn2 := fun w => hI (dU high u) hjb.1 hjb.2 w
   have e : Sq.pwrong high u 4 = dT (high == 0) (Sq.low u) true (Sq.non u) (Sq.high high && Sq.low u) (Sq.non (dU high u).toNat) := by
    unfold Sq.pwrong dT Sq.plow dU
    have hs : u * 16 ^ (4 - 4) % 65536 = u := by omega
    rw [hs]
    cases h2 : Sq.low u <;> cases h3 : Sq.high high <;> by_cases h1 : high = 0 <;> simp [h1]
   rw [e]
   exact wrong_4 p r n at_ u' many' high u over tv _ _ _ _ _ _ w h rfl hlow hn hj hn2 hu
theorem eK (x : UInt8) (k : Nat) (h : Sq.hex x = some k) (w : World) : Calls Tryz.prog 110 #[.int .u8 x.toNat] w fun e w' => e = .returned (.tuple #[.int .u16 k, .bool true]) ∧ w = w' := by
 unfold Sq.hex at h
 have hx := x.toNat_lt
 obtain ⟨y, hy⟩ : ∃ y : Int, y = (x.toNat : Int) := ⟨_, rfl⟩
 rw [← hy]
 split at h
 · rename_i h1
   injection h with h
   have e : (k : Int) = y - 48 := by omega
   rw [e]
   have h2 : 48 ≤ y ∧ y ≤ 57 := by omega
   clear h1 h e hy
   obtain ⟨h3, h4⟩ := h2
   refine aA Tryz.func110 rfl ?_
   intro Q_ hQ_
   simp only [Tryz.ntmps110, ents_, Nat.reduceAdd, Nat.reduceSub]
   go_wp2
   all_goals first | (exfalso; omega) | skip
   all_goals
    refine hQ_.ret (results_tmp2 rfl _ _ _) rfl ?_
    exact ⟨rfl, rfl⟩
 split at h
 · rename_i h1
   injection h with h
   have e : (k : Int) = y - 97 + 10 := by omega
   rw [e]
   have h2 : 97 ≤ y ∧ y ≤ 102 := by omega
   clear h1 h e hy
   obtain ⟨h3, h4⟩ := h2
   refine aA Tryz.func110 rfl ?_
   intro Q_ hQ_
   simp only [Tryz.ntmps110, ents_, Nat.reduceAdd, Nat.reduceSub]
   go_wp2
   all_goals first | (exfalso; omega) | skip
   all_goals
    refine hQ_.ret (results_tmp2 rfl _ _ _) rfl ?_
    exact ⟨rfl, rfl⟩
 split at h
 · rename_i h1
   injection h with h
   have e : (k : Int) = y - 65 + 10 := by omega
   rw [e]
   have h2 : 65 ≤ y ∧ y ≤ 70 := by omega
   clear h1 h e hy
   obtain ⟨h3, h4⟩ := h2
   refine aA Tryz.func110 rfl ?_
   intro Q_ hQ_
   simp only [Tryz.ntmps110, ents_, Nat.reduceAdd, Nat.reduceSub]
   go_wp2
   all_goals first | (exfalso; omega) | skip
   all_goals
    refine hQ_.ret (results_tmp2 rfl _ _ _) rfl ?_
    exact ⟨rfl, rfl⟩
 · cases h
theorem gV (x : UInt8) (h : Sq.hex x = none) (w : World) : Calls Tryz.prog 110 #[.int .u8 x.toNat] w fun e w' => e = .returned (.tuple #[.int .u16 0, .bool false]) ∧ w = w' := by
 unfold Sq.hex at h
 have hx := x.toNat_lt
 obtain ⟨y, hy⟩ : ∃ y : Int, y = (x.toNat : Int) := ⟨_, rfl⟩
 rw [← hy]
 split at h
 · cases h
 split at h
 · cases h
 split at h
 · cases h
 rename_i h1 h2 h3
 have a1 : ¬ (48 ≤ y ∧ y ≤ 57) := by omega
 have a2 : ¬ (97 ≤ y ∧ y ≤ 102) := by omega
 have a3 : ¬ (65 ≤ y ∧ y ≤ 70) := by omega
 clear h h1 h2 h3 hy
 refine aA Tryz.func110 rfl ?_
 intro Q_ hQ_
 simp only [Tryz.ntmps110, ents_, Nat.reduceAdd, Nat.reduceSub]
 go_wp2
 all_goals first | (exfalso; omega) | skip
 all_goals
  refine hQ_.ret (results_tmp2 rfl _ _ _) rfl ?_
  exact ⟨rfl, rfl⟩
theorem kK (u k : Nat) (hu : u < 4096) (hk : k < 16) : bits .or .u16 ((u : Int) * 16) (k : Int) = ((u * 16 + k : Nat) : Int) := by
 have hw : ∀ n : Int, 0 ≤ n → n < 2 ^ 16 → IntKind.u16.wrap n = n := fun n h1 h2 => by
  rw [show IntKind.u16.wrap n = n % 65536 by simp [IntKind.wrap, IntKind.bits, IntKind.signed]]; omega
 have := bits_join .u16 16 (by decide) hw 4 ((u : Int) * 16) (k : Int) (by omega) (by omega) (by omega) (by omega) (by omega) (by omega)
 rw [this]
 omega
theorem lQ (p : Nat) (x : UInt8) (w : World) (hk : Sq.hex x = none) :
 Calls Tryz.prog 87 #[.pointer (some ⟨p, 0, none⟩), .int .u8 x.toNat] w fun e w' => e = .returned (.int .i64 2) ∧ w = w' := by
 have hdg := fun w => gV x hk w
 clear hk
 refine aA Tryz.func87 rfl ?_
 intro Q_ hQ_
 simp only [Tryz.ntmps87, ents_, Nat.reduceAdd, Nat.reduceSub]
 go_wp2_with fail
 refine (hdg _).mono ?_
 rintro e w1 ⟨rfl, rfl⟩
 try go_simp
 go_wp2
 refine hQ_.ret (results_tmp rfl _ _ _) rfl ?_
 exact ⟨rfl, rfl⟩
theorem oT (p r n at_ u many high : Nat) (over : Bool) (tv : Value) (x : UInt8) (k c : Nat) (w : World) (h : bG w p tv n r at_ u many high over) (hk : Sq.hex x = some k) (hu : u < 4096) (hm : many ≤ 3) (hwr : Sq.pwrong high (u * 16 + k) (many + 1) = c) (hc : c ≠ 0) :
 Calls Tryz.prog 87 #[.pointer (some ⟨p, 0, none⟩), .int .u8 x.toNat] w fun e w' => e = .returned (.int .i64 c) ∧ Touch [] w w' := by
 have hcc : ((c : Int) != 0) = true := by simpa using hc
 have hdg := fun w => eK x k hk w
 have hk16 := Sq.hex_lt hk
 have hor := kK u k hu hk16
 obtain ⟨U, hU⟩ : ∃ U, U = u * 16 + k := ⟨_, rfl⟩
 obtain ⟨M, hM⟩ : ∃ M, M = many + 1 := ⟨_, rfl⟩
 rw [← hU] at hor hwr
 try rw [← hU]
 rw [← hM] at hwr
 try rw [← hM]
 have hM1 : (many : Int) + 1 = (M : Int) := by omega
 have hw := fun W hW => eX p r n at_ u many high U M over tv W hW (by omega) (by omega) (by omega)
 rw [hwr] at hw
 have hUU : U < 65536 := by omega
 have hMM : M ≤ 4 := by omega
 replace hU := Box.mk hU
 replace hM := Box.mk hM
 generalize Sq.hex x = hx at *
 generalize x.toNat = y at *
 clear hk hwr
 have h0 := h
 unfold bG at h
 have ⟨c0,c1,c2,c3,c4,c5,c6,c7⟩ := cs8 h
 have ⟨f0,f1,f2,f3,f4,f5,f6,f7⟩ := fs8 h
 have lb := aB h
 try simp [StrC] at c0 c1 c2 c3 c4 c5 c6 c7
 refine aA Tryz.func87 rfl ?_
 intro Q_ hQ_
 simp only [Tryz.ntmps87, ents_, Nat.reduceAdd, Nat.reduceSub]
 go_wp2_with fail
 refine (hdg _).mono ?_
 rintro e w1 ⟨rfl, rfl⟩
 try go_simp
 go_upto_region 4 with (fail)
 go_quiet (fail)
 go_wp2_with fail
 refine (hw _ (bA h0 _)).mono ?_
 rintro e w2 ⟨rfl, rfl⟩
 try go_simp
 go_wp2
 refine hQ_.ret (results_tmp rfl _ _ _) rfl ?_
 exact ⟨rfl, (Touch.refl _ _).drewN _⟩
theorem qX (p r n at_ u many high : Nat) (over : Bool) (tv : Value) (x : UInt8) (k : Nat) (w : World) (h : bG w p tv n r at_ u many high over) (hk : Sq.hex x = some k) (hu : u < 4096) (hm : many ≤ 2) (hwr : Sq.pwrong high (u * 16 + k) (many + 1) = 0) :
 Calls Tryz.prog 87 #[.pointer (some ⟨p, 0, none⟩), .int .u8 x.toNat] w fun e w' => e = .returned (.int .i64 0) ∧ bG w' p tv n r at_ (u * 16 + k) (many + 1) high over ∧ Touch [p] w w' := by
 have hdg := fun w => eK x k hk w
 have hk16 := Sq.hex_lt hk
 have hor := kK u k hu hk16
 obtain ⟨U, hU⟩ : ∃ U, U = u * 16 + k := ⟨_, rfl⟩
 obtain ⟨M, hM⟩ : ∃ M, M = many + 1 := ⟨_, rfl⟩
 rw [← hU] at hor hwr
 try rw [← hU]
 rw [← hM] at hwr
 try rw [← hM]
 have hM1 : (many : Int) + 1 = (M : Int) := by omega
 have hw := fun W hW => eX p r n at_ u many high U M over tv W hW (by omega) (by omega) (by omega)
 rw [hwr] at hw
 have hUU : U < 65536 := by omega
 have hMM : M ≤ 4 := by omega
 replace hU := Box.mk hU
 replace hM := Box.mk hM
 generalize Sq.hex x = hx at *
 generalize x.toNat = y at *
 clear hk hwr
 have h0 := h
 unfold bG at h
 have ⟨c0,c1,c2,c3,c4,c5,c6,c7⟩ := cs8 h
 have ⟨f0,f1,f2,f3,f4,f5,f6,f7⟩ := fs8 h
 have lb := aB h
 try simp [StrC] at c0 c1 c2 c3 c4 c5 c6 c7
 refine aA Tryz.func87 rfl ?_
 intro Q_ hQ_
 simp only [Tryz.ntmps87, ents_, Nat.reduceAdd, Nat.reduceSub]
 go_wp2_with fail
 refine (hdg _).mono ?_
 rintro e w1 ⟨rfl, rfl⟩
 try go_simp
 go_upto_region 4 with (fail)
 go_quiet (fail)
 go_wp2_with fail
 refine (hw _ (bA h0 _)).mono ?_
 rintro e w2 ⟨rfl, rfl⟩
 try go_simp
 have hlt : decide ((M : Int) < 4) = true := by have := hM.out; simp; omega
 go_wp2
 refine hQ_.ret (results_tmp rfl _ _ _) rfl ?_
 exact ⟨rfl, aF (aF (bA h0 _) 4 _) 5 _, (((Touch.refl _ _).drewN _).setCell (by simp) _).setCell (by simp) _⟩
theorem qY (p r n at_ u high : Nat) (over : Bool) (tv : Value) (x : UInt8) (k : Nat) (w : World) (h : bG w p tv n r at_ u 3 high over) (hk : Sq.hex x = some k) (hu : u < 4096) (hwr : Sq.pwrong high (u * 16 + k) 4 = 0) (hno : (Sq.high high && Sq.low (u * 16 + k)) = false) (hhi : Sq.high (u * 16 + k) = true) :
 Calls Tryz.prog 87 #[.pointer (some ⟨p, 0, none⟩), .int .u8 x.toNat] w fun e w' => e = .returned (.int .i64 0) ∧ (∃ u' m', bG w' p tv n r 0 u' m' (u * 16 + k) over) ∧ Touch [p] w w' := by
 obtain ⟨many, hmany⟩ : ∃ m : Nat, m = 3 := ⟨_, rfl⟩
 rw [← hmany] at h
 have hm : many ≤ 3 := by omega
 have hwr : Sq.pwrong high (u * 16 + k) (many + 1) = 0 := by rw [hmany]; exact hwr
 have hj := fun w => iP high (u * 16 + k) w
 rw [hno] at hj
 have hhc := fun w => gD (u * 16 + k) w
 rw [hhi] at hhc
 clear hno hhi
 replace hmany := Box.mk hmany
 have hdg := fun w => eK x k hk w
 have hk16 := Sq.hex_lt hk
 have hor := kK u k hu hk16
 obtain ⟨U, hU⟩ : ∃ U, U = u * 16 + k := ⟨_, rfl⟩
 obtain ⟨M, hM⟩ : ∃ M, M = many + 1 := ⟨_, rfl⟩
 rw [← hU] at hor hwr
 try rw [← hU]
 rw [← hM] at hwr
 try rw [← hM]
 have hM1 : (many : Int) + 1 = (M : Int) := by omega
 have hw := fun W hW => eX p r n at_ u many high U M over tv W hW (by omega) (by omega) (by omega)
 rw [hwr] at hw
 have hUU : U < 65536 := by omega
 have hMM : M ≤ 4 := by omega
 replace hU := Box.mk hU
 replace hM := Box.mk hM
 generalize Sq.hex x = hx at *
 generalize x.toNat = y at *
 clear hk hwr
 have h0 := h
 unfold bG at h
 have ⟨c0,c1,c2,c3,c4,c5,c6,c7⟩ := cs8 h
 have ⟨f0,f1,f2,f3,f4,f5,f6,f7⟩ := fs8 h
 have lb := aB h
 try simp [StrC] at c0 c1 c2 c3 c4 c5 c6 c7
 refine aA Tryz.func87 rfl ?_
 intro Q_ hQ_
 simp only [Tryz.ntmps87, ents_, Nat.reduceAdd, Nat.reduceSub]
 go_wp2_with fail
 refine (hdg _).mono ?_
 rintro e w1 ⟨rfl, rfl⟩
 try go_simp
 go_upto_region 4 with (fail)
 go_quiet (fail)
 go_wp2_with fail
 refine (hw _ (bA h0 _)).mono ?_
 rintro e w2 ⟨rfl, rfl⟩
 try go_simp
 rw [hU.out.symm] at hj hhc
 have hM4 : M = 4 := by have := hM.out; have := hmany.out; omega
 replace hM4 := Box.mk hM4
 have hlt : decide ((M : Int) < 4) = false := by have := hM4.out; simp; omega
 go_wp2_with fail
 refine (hj _).mono ?_
 rintro e w3 ⟨rfl, rfl⟩
 try go_simp
 go_wp2_with fail
 refine (hhc _).mono ?_
 rintro e w4 ⟨rfl, rfl⟩
 try go_simp
 go_wp2
 refine hQ_.ret (results_tmp rfl _ _ _) rfl ?_
 exact ⟨rfl, ⟨U, M, aF (aF (aF (aF (bA h0 _) 4 _) 5 _) 3 _) 6 _⟩, (((((Touch.refl _ _).drewN _).setCell (by simp) _).setCell (by simp) _).setCell (by simp) _).setCell (by simp) _⟩
theorem lP (p r n at_ u high : Nat) (over : Bool) (T : List UInt8) (tv : Value) (g : Option Nat) (x : UInt8) (k c : Nat) (w : World) (h : bG w p tv n r at_ u 3 high over) (hs : SlAt w 5 1 tv T.length (bM T) g) (hg : ∀ k, g = some k → k ≠ p) (hT : T.length ≤ 1000000) (hn : n ≤ 1000000) (hk : Sq.hex x = some k) (hu : u < 4096) (hwr : Sq.pwrong high (u * 16 + k) 4 = 0)
 (hc : ((Sq.high high && Sq.low (u * 16 + k)) = true ∧ c = Sq.join high (u * 16 + k)) ∨ ((Sq.high high && Sq.low (u * 16 + k)) = false ∧ Sq.high (u * 16 + k) = false ∧ c = u * 16 + k)) :
 Calls Tryz.prog 87 #[.pointer (some ⟨p, 0, none⟩), .int .u8 x.toNat] w fun e w' => e = .returned (.int .i64 0) ∧ ∃ g' tv' u' m', bG w' p tv' (n + 1) r 0 u' m' 0 over ∧ SlAt w' 5 1 tv' (T ++ Sq.enc c).length (bM (T ++ Sq.enc c)) g' ∧ cK w g g' ∧ Touch (p :: g.toList) w w' := by
 obtain ⟨many, hmany⟩ : ∃ m : Nat, m = 3 := ⟨_, rfl⟩
 rw [← hmany] at h
 have hm : many ≤ 3 := by omega
 have hwr : Sq.pwrong high (u * 16 + k) (many + 1) = 0 := by rw [hmany]; exact hwr
 have hj := fun w => iP high (u * 16 + k) w
 have hhc := fun w => gD (u * 16 + k) w
 have hsay := fun W u' m' hW hS => nS p r n 0 u' m' high over T tv g (c : Int) (by omega) W hW hS hg hT hn
 simp only [Int.toNat_natCast] at hsay
 replace hmany := Box.mk hmany
 rcases hc with ⟨q1, q2⟩ | ⟨q1, q2, q3⟩
 · have hjv : dU high (u * 16 + k) = (c : Int) := by unfold dU; rw [q1, if_pos rfl, q2]
   rw [q1, hjv] at hj
   clear q1 q2 hhc hjv
   have hdg := fun w => eK x k hk w
   have hk16 := Sq.hex_lt hk
   have hor := kK u k hu hk16
   obtain ⟨U, hU⟩ : ∃ U, U = u * 16 + k := ⟨_, rfl⟩
   obtain ⟨M, hM⟩ : ∃ M, M = many + 1 := ⟨_, rfl⟩
   rw [← hU] at hor hwr
   try rw [← hU]
   rw [← hM] at hwr
   try rw [← hM]
   have hM1 : (many : Int) + 1 = (M : Int) := by omega
   have hw := fun W hW => eX p r n at_ u many high U M over tv W hW (by omega) (by omega) (by omega)
   rw [hwr] at hw
   have hUU : U < 65536 := by omega
   have hMM : M ≤ 4 := by omega
   replace hU := Box.mk hU
   replace hM := Box.mk hM
   generalize Sq.hex x = hx at *
   generalize x.toNat = y at *
   clear hk hwr
   have h0 := h
   unfold bG at h
   have ⟨c0,c1,c2,c3,c4,c5,c6,c7⟩ := cs8 h
   have ⟨f0,f1,f2,f3,f4,f5,f6,f7⟩ := fs8 h
   have lb := aB h
   try simp [StrC] at c0 c1 c2 c3 c4 c5 c6 c7
   refine aA Tryz.func87 rfl ?_
   intro Q_ hQ_
   simp only [Tryz.ntmps87, ents_, Nat.reduceAdd, Nat.reduceSub]
   go_wp2_with fail
   refine (hdg _).mono ?_
   rintro e w1 ⟨rfl, rfl⟩
   try go_simp
   go_upto_region 4 with (fail)
   go_quiet (fail)
   go_wp2_with fail
   refine (hw _ (bA h0 _)).mono ?_
   rintro e w2 ⟨rfl, rfl⟩
   try go_simp
   rw [hU.out.symm] at hj
   have hM4 : M = 4 := by have := hM.out; have := hmany.out; omega
   replace hM4 := Box.mk hM4
   have hlt : decide ((M : Int) < 4) = false := by have := hM4.out; simp; omega
   go_wp2_with fail
   refine (hj _).mono ?_
   rintro e w3 ⟨rfl, rfl⟩
   try go_simp
   go_wp2_with fail
   have hA : ∀ q, bG ((((w.drewN q).setCell ⟨p, 4, none⟩ (.int .u16 U)).setCell ⟨p, 5, none⟩ (.int .i64 M)).setCell ⟨p, 3, none⟩ (.int .i64 0)) p tv n r 0 U M high over := fun q => aF (aF (aF (bA h0 q) 4 (.int .u16 U)) 5 (.int .i64 M)) 3 (.int .i64 0)
   have hTT : ∀ q, Touch [p] w ((((w.drewN q).setCell ⟨p, 4, none⟩ (.int .u16 U)).setCell ⟨p, 5, none⟩ (.int .i64 M)).setCell ⟨p, 3, none⟩ (.int .i64 0)) := fun q => (((Touch.drewN (Touch.refl _ w) q).setCell (by simp) (.int .u16 U)).setCell (by simp) (.int .i64 M)).setCell (by simp) (.int .i64 0)
   have hpS : ∀ j, g = some j → j ∉ [p] := fun j hj q => hg j hj (by simpa using q)
   refine (hsay _ U M (hA _) (hs.keep (hTT _) hpS)).mono ?_
   rintro e w5 ⟨rfl, g', tv', k1, k2, k3, k4⟩
   try go_simp
   go_wp2
   refine hQ_.ret (results_tmp rfl _ _ _) rfl ?_
   exact ⟨rfl, g', tv', U, M, k1, k2, cE k3 (hTT _).size, ((hTT _).mono (by simp)).trans k4⟩
 · rw [q1] at hj
   rw [q2] at hhc
   clear q1 q2
   subst q3
   have hdg := fun w => eK x k hk w
   have hk16 := Sq.hex_lt hk
   have hor := kK u k hu hk16
   obtain ⟨U, hU⟩ : ∃ U, U = u * 16 + k := ⟨_, rfl⟩
   obtain ⟨M, hM⟩ : ∃ M, M = many + 1 := ⟨_, rfl⟩
   rw [← hU] at hor hwr
   try rw [← hU]
   rw [← hM] at hwr
   try rw [← hM]
   have hM1 : (many : Int) + 1 = (M : Int) := by omega
   have hw := fun W hW => eX p r n at_ u many high U M over tv W hW (by omega) (by omega) (by omega)
   rw [hwr] at hw
   have hUU : U < 65536 := by omega
   have hMM : M ≤ 4 := by omega
   replace hU := Box.mk hU
   replace hM := Box.mk hM
   generalize Sq.hex x = hx at *
   generalize x.toNat = y at *
   clear hk hwr
   have h0 := h
   unfold bG at h
   have ⟨c0,c1,c2,c3,c4,c5,c6,c7⟩ := cs8 h
   have ⟨f0,f1,f2,f3,f4,f5,f6,f7⟩ := fs8 h
   have lb := aB h
   try simp [StrC] at c0 c1 c2 c3 c4 c5 c6 c7
   refine aA Tryz.func87 rfl ?_
   intro Q_ hQ_
   simp only [Tryz.ntmps87, ents_, Nat.reduceAdd, Nat.reduceSub]
   go_wp2_with fail
   refine (hdg _).mono ?_
   rintro e w1 ⟨rfl, rfl⟩
   try go_simp
   go_upto_region 4 with (fail)
   go_quiet (fail)
   go_wp2_with fail
   refine (hw _ (bA h0 _)).mono ?_
   rintro e w2 ⟨rfl, rfl⟩
   try go_simp
   rw [hU.out.symm] at hj hhc hsay
   have hM4 : M = 4 := by have := hM.out; have := hmany.out; omega
   replace hM4 := Box.mk hM4
   have hlt : decide ((M : Int) < 4) = false := by have := hM4.out; simp; omega
   go_wp2_with fail
   refine (hj _).mono ?_
   rintro e w3 ⟨rfl, rfl⟩
   try go_simp
   go_wp2_with fail
   refine (hhc _).mono ?_
   rintro e w4 ⟨rfl, rfl⟩
   try go_simp
   go_wp2_with fail
   have hA : ∀ q, bG ((((w.drewN q).setCell ⟨p, 4, none⟩ (.int .u16 U)).setCell ⟨p, 5, none⟩ (.int .i64 M)).setCell ⟨p, 3, none⟩ (.int .i64 0)) p tv n r 0 U M high over := fun q => aF (aF (aF (bA h0 q) 4 (.int .u16 U)) 5 (.int .i64 M)) 3 (.int .i64 0)
   have hTT : ∀ q, Touch [p] w ((((w.drewN q).setCell ⟨p, 4, none⟩ (.int .u16 U)).setCell ⟨p, 5, none⟩ (.int .i64 M)).setCell ⟨p, 3, none⟩ (.int .i64 0)) := fun q => (((Touch.drewN (Touch.refl _ w) q).setCell (by simp) (.int .u16 U)).setCell (by simp) (.int .i64 M)).setCell (by simp) (.int .i64 0)
   have hpS : ∀ j, g = some j → j ∉ [p] := fun j hj q => hg j hj (by simpa using q)
   refine (hsay _ U M (hA _) (hs.keep (hTT _) hpS)).mono ?_
   rintro e w5 ⟨rfl, g', tv', k1, k2, k3, k4⟩
   try go_simp
   go_wp2
   refine hQ_.ret (results_tmp rfl _ _ _) rfl ?_
   exact ⟨rfl, g', tv', U, M, k1, k2, cE k3 (hTT _).size, ((hTT _).mono (by simp)).trans k4⟩
end Go.Proofs.YthdncmagfgoboaaGreatDoor
end
