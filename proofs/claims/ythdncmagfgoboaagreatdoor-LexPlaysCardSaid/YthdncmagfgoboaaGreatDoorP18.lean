/- One of the texts that lead to the theorem lexPlays.proved: the conditions stand in each theorem. -/
import Derived.Test.YthdncmagfgoboaaGreatDoorP17
import Derived.Test.YthdncmagfgoboaaGreatDoorP7
import Derived.Deep.DeepCutAuto
import Derived.Outline
import Derived.Great.Walk
import Derived.Great.BuildSlice
import Derived.Deep.WholeRow
set_option linter.unusedSimpArgs false
set_option linter.unusedVariables false
namespace Go.Proofs.YthdncmagfgoboaaGreatDoor
open Go.RowKit
set_option maxRecDepth 100000
set_option maxHeartbeats 8000000
theorem tH (h l : Nat) (hh : Sq.high h = true) (hl : Sq.low l = true) (w : World) : Calls Tryz.prog 112 #[.int .u16 h, .int .u16 l] w fun e w' => e = .returned (.tuple #[.int .i32 (Sq.join h l), .bool true]) ∧ w = w' := by
 have h1 := fun w => gD h w
 have h2 := fun w => fS l w
 rw [hh] at h1
 rw [hl] at h2
 simp [Sq.high] at hh
 simp [Sq.low] at hl
 obtain ⟨b1, b2⟩ := hh
 obtain ⟨b3, b4⟩ := hl
 refine aA Tryz.func112 rfl ?_
 intro Q_ hQ_
 simp only [Tryz.ntmps112, ents_, Nat.reduceAdd, Nat.reduceSub]
 go_wp2_with fail
 refine (h1 _).mono ?_
 rintro e w1 ⟨rfl, rfl⟩
 try go_simp
 go_wp2_with fail
 refine (h2 _).mono ?_
 rintro e w1 ⟨rfl, rfl⟩
 try go_simp
 go_wp2
 refine hQ_.ret (results_tmp2 rfl _ _ _) rfl ?_
 refine ⟨?_, rfl⟩
 have e : ((Sq.join h l : Nat) : Int) = 65536 + ((h : Int) - 55296) * 1024 + ((l : Int) - 56320) := by unfold Sq.join; omega
 rw [e]
 try rw [Int.add_sub_assoc]
 try rfl
theorem vI (h l : Nat) (hn : (Sq.high h && Sq.low l) = false) (w : World) : Calls Tryz.prog 112 #[.int .u16 h, .int .u16 l] w fun e w' => e = .returned (.tuple #[.int .i32 0, .bool false]) ∧ w = w' := by
 have h1 := fun w => gD h w
 have h2 := fun w => fS l w
 generalize Sq.high h = a at *
 generalize Sq.low l = b at *
 cases a <;> cases b <;> (try cases hn)
 all_goals
  refine aA Tryz.func112 rfl ?_
  intro Q_ hQ_
  simp only [Tryz.ntmps112, ents_, Nat.reduceAdd, Nat.reduceSub]
  go_wp2_with fail
  refine (h1 _).mono ?_
  rintro e w1 ⟨rfl, rfl⟩
  try go_simp
  go_wp2_with fail
  try (refine (h2 _).mono ?_; rintro e w1 ⟨rfl, rfl⟩; try go_simp; go_wp2)
  refine hQ_.ret (results_tmp2 rfl _ _ _) rfl ?_
  exact ⟨rfl, rfl⟩
theorem tM (h l : Nat) (hh : Sq.high h = true) (hl : Sq.low l = true) (w : World) : Calls Tryz.prog 99 #[.int .u16 h, .int .u16 l] w fun e w' => e = .returned (.tuple #[.int .i32 (Sq.join h l), .bool true]) ∧ w = w' := by
 have h1 := fun w => fB h w
 have h2 := fun w => pQ l w
 rw [hh] at h1
 rw [hl] at h2
 simp [Sq.high] at hh
 simp [Sq.low] at hl
 obtain ⟨b1, b2⟩ := hh
 obtain ⟨b3, b4⟩ := hl
 refine aA Tryz.func99 rfl ?_
 intro Q_ hQ_
 simp only [Tryz.ntmps99, ents_, Nat.reduceAdd, Nat.reduceSub]
 go_wp2_with fail
 refine (h1 _).mono ?_
 rintro e w1 ⟨rfl, rfl⟩
 try go_simp
 go_wp2_with fail
 refine (h2 _).mono ?_
 rintro e w1 ⟨rfl, rfl⟩
 try go_simp
 go_wp2
 refine hQ_.ret (results_tmp2 rfl _ _ _) rfl ?_
 refine ⟨?_, rfl⟩
 have e : ((Sq.join h l : Nat) : Int) = 65536 + ((h : Int) - 55296) * 1024 + ((l : Int) - 56320) := by unfold Sq.join; omega
 rw [e]
 try rw [Int.add_sub_assoc]
 try rfl
theorem vP (h l : Nat) (hn : (Sq.high h && Sq.low l) = false) (w : World) : Calls Tryz.prog 99 #[.int .u16 h, .int .u16 l] w fun e w' => e = .returned (.tuple #[.int .i32 0, .bool false]) ∧ w = w' := by
 have h1 := fun w => fB h w
 have h2 := fun w => pQ l w
 generalize Sq.high h = a at *
 generalize Sq.low l = b at *
 cases a <;> cases b <;> (try cases hn)
 all_goals
  refine aA Tryz.func99 rfl ?_
  intro Q_ hQ_
  simp only [Tryz.ntmps99, ents_, Nat.reduceAdd, Nat.reduceSub]
  go_wp2_with fail
  refine (h1 _).mono ?_
  rintro e w1 ⟨rfl, rfl⟩
  try go_simp
  go_wp2_with fail
  try (refine (h2 _).mono ?_; rintro e w1 ⟨rfl, rfl⟩; try go_simp; go_wp2)
  refine hQ_.ret (results_tmp2 rfl _ _ _) rfl ?_
  exact ⟨rfl, rfl⟩
def qN : Array Value := #[Value.int IntKind.i64 1, Value.int IntKind.i64 1, Value.int IntKind.i64 1, Value.int IntKind.i64 1, Value.int IntKind.i64 1, Value.int IntKind.i64 1, Value.int IntKind.i64 1, Value.int IntKind.i64 1, Value.int IntKind.i64 1, Value.int IntKind.i64 1, Value.int IntKind.i64 1, Value.int IntKind.i64 1, Value.int IntKind.i64 1, Value.int IntKind.i64 1, Value.int IntKind.i64 1, Value.int IntKind.i64 1, Value.int IntKind.i64 0, Value.int IntKind.i64 0, Value.int IntKind.i64 0, Value.int IntKind.i64 0, Value.int IntKind.i64 0, Value.int IntKind.i64 0, Value.int IntKind.i64 0, Value.int IntKind.i64 0, Value.int IntKind.i64 2, Value.int IntKind.i64 2, Value.int IntKind.i64 2, Value.int IntKind.i64 2, Value.int IntKind.i64 3, Value.int IntKind.i64 3, Value.int IntKind.i64 4, Value.int IntKind.i64 0]
theorem wS (y : Nat) (hy : y < 32) : qN[y]? = some (.int .i64 (Sq.at0 Sq.lens y)) := by
 have key : ∀ n : Fin 32, qN[n.val]? = some (.int .i64 (Sq.at0 Sq.lens n.val)) := by
  intro n
  match n with
  | ⟨0, _⟩ | ⟨1, _⟩ | ⟨2, _⟩ | ⟨3, _⟩ | ⟨4, _⟩ | ⟨5, _⟩ | ⟨6, _⟩ | ⟨7, _⟩ | ⟨8, _⟩ | ⟨9, _⟩ | ⟨10, _⟩ | ⟨11, _⟩ | ⟨12, _⟩ | ⟨13, _⟩ | ⟨14, _⟩ | ⟨15, _⟩ | ⟨16, _⟩ | ⟨17, _⟩ | ⟨18, _⟩ | ⟨19, _⟩ | ⟨20, _⟩ | ⟨21, _⟩ | ⟨22, _⟩ | ⟨23, _⟩ | ⟨24, _⟩ | ⟨25, _⟩ | ⟨26, _⟩ | ⟨27, _⟩ | ⟨28, _⟩ | ⟨29, _⟩ | ⟨30, _⟩ | ⟨31, _⟩ => rfl
  | ⟨n + 32, h⟩ => omega
 exact key ⟨y, hy⟩
theorem usz_0 (x : Nat) (t1 : (((x : Int) == 192) || ((x : Int) == 193) || decide ((244 : Int) < (x : Int))) = true) (w : World) : Calls Tryz.prog 139 #[.int .u8 x] w fun e w' => e = .returned (.int .i64 0) ∧ Touch [] w w' := by
 simp only [Bool.or_eq_true] at t1
 rcases t1 with (t1 | t1) | t1
 ·
  refine aA Tryz.func139 rfl ?_
  intro Q_ hQ_
  simp only [Tryz.ntmps139, ents_, Nat.reduceAdd, Nat.reduceSub]
  go_wp2
  refine hQ_.ret (results_tmp rfl _ _ _) rfl ?_
  exact ⟨rfl, Touch.refl _ _⟩
 · cases t2 : ((x : Int) == 192)
   ·
    refine aA Tryz.func139 rfl ?_
    intro Q_ hQ_
    simp only [Tryz.ntmps139, ents_, Nat.reduceAdd, Nat.reduceSub]
    go_wp2
    refine hQ_.ret (results_tmp rfl _ _ _) rfl ?_
    exact ⟨rfl, Touch.refl _ _⟩
   ·
    refine aA Tryz.func139 rfl ?_
    intro Q_ hQ_
    simp only [Tryz.ntmps139, ents_, Nat.reduceAdd, Nat.reduceSub]
    go_wp2
    refine hQ_.ret (results_tmp rfl _ _ _) rfl ?_
    exact ⟨rfl, Touch.refl _ _⟩
 · cases t2 : ((x : Int) == 192)
   · cases t3 : ((x : Int) == 193)
     ·
      refine aA Tryz.func139 rfl ?_
      intro Q_ hQ_
      simp only [Tryz.ntmps139, ents_, Nat.reduceAdd, Nat.reduceSub]
      go_wp2
      refine hQ_.ret (results_tmp rfl _ _ _) rfl ?_
      exact ⟨rfl, Touch.refl _ _⟩
     ·
      refine aA Tryz.func139 rfl ?_
      intro Q_ hQ_
      simp only [Tryz.ntmps139, ents_, Nat.reduceAdd, Nat.reduceSub]
      go_wp2
      refine hQ_.ret (results_tmp rfl _ _ _) rfl ?_
      exact ⟨rfl, Touch.refl _ _⟩
   ·
    refine aA Tryz.func139 rfl ?_
    intro Q_ hQ_
    simp only [Tryz.ntmps139, ents_, Nat.reduceAdd, Nat.reduceSub]
    go_wp2
    refine hQ_.ret (results_tmp rfl _ _ _) rfl ?_
    exact ⟨rfl, Touch.refl _ _⟩
theorem usz_1 (x : Nat) (t1 : ((x : Int) == 192) = false) (t2 : ((x : Int) == 193) = false) (t3 : decide ((244 : Int) < (x : Int)) = false) (hx : x < 256) (w : World) : Calls Tryz.prog 139 #[.int .u8 x] w fun e w' => e = .returned (.int .i64 (Sq.at0 Sq.lens (x / 8))) ∧ Touch [] w w' := by
 have hq : x / 8 < 32 := by omega
 have hk := wS (x / 8) hq
 generalize Sq.at0 Sq.lens (x / 8) = L at hk ⊢
 let kp_ : Exit → Act → World → Prop := bodyPost Tryz.prog Tryz.f139 (fun _ _ => True)
 refine aA Tryz.func139 rfl ?_
 intro Q_ hQ_
 simp only [Tryz.ntmps139, ents_, Nat.reduceAdd, Nat.reduceSub]
 go_upto_region 3 with (fail)
 go_cut [3] (fun v3 wc => v3 = .pointer (some ⟨w.heap.size, 0, none⟩) ∧ wc.heap[w.heap.size]? = some (.cells qN 207) ∧ Touch [] w wc)
 case first =>
  apply wp_region_lit
  refine wpList_buildTo rfl 207 _ rfl (some 14) rfl qN (by kernel_rfl) ?_
  refine Go.Great.wpList_allocTo rfl (some 3) rfl (.pointer (some ⟨w.heap.size, 0, none⟩)) (.cells (Array.replicate 32 (.int .i64 0)) 207) (by kernel_rfl) ?_
  refine wpList_store_row rfl 207 _ _ rfl w.heap.size qN rfl rfl 207 (Array.replicate 32 (.int .i64 0)) (aZ _ _) (by kernel_rfl) (by kernel_rfl) (by kernel_rfl) ?_
  rw [World.setRow_alloc_new]
  apply wpList_nil
  simp only [Act.put, sets_]
  rename_i hJ hM
  exact hM _ _ (Met.intro (hJ _ _ ⟨_, _, _, _, _, _, _, _, _, _, _, _, _, _, _, _, ⟨rfl, aZ _ _, (Touch.refl _ _).alloc _⟩, rfl⟩))
 case rest =>
  obtain ⟨rfl, hA, ht⟩ := hcut
  have hcell : wc.cell? ⟨w.heap.size, x / 8, none⟩ = some (.int .i64 L) := (aN hA (x / 8)).trans hk
  clear hA hk
  go_wp2
  refine hQ_.ret (results_tmp rfl _ _ _) rfl ?_
  exact ⟨rfl, ht⟩
theorem iM (x : Nat) (hx : x < 256) (w : World) : Calls Tryz.prog 139 #[.int .u8 x] w fun e w' => e = .returned (.int .i64 (Sq.long x)) ∧ Touch [] w w' := by
 rw [Sq.long_lens x hx]
 by_cases h : x = 192 ∨ x = 193 ∨ 244 < x
 · rw [if_pos h]
   exact usz_0 x (by simp; omega) w
 · rw [if_neg h]
   exact usz_1 x (by rw [beq_eq_false_iff_ne]; omega) (by rw [beq_eq_false_iff_ne]; omega) (by simp; omega) hx w
theorem pE (f x : Nat) (h : f < 224) (w : World) : Calls Tryz.prog 140 #[.int .u8 f, .int .u8 x] w fun e w' => e = .returned (.bool (Sq.second f x)) ∧ w = w' := by
 rw [Sq.second_low f x h]
 refine aA Tryz.func140 rfl ?_
 intro Q_ hQ_
 simp only [Tryz.ntmps140, ents_, Nat.reduceAdd, Nat.reduceSub]
 go_wp2
 all_goals
  refine hQ_.ret (results_tmp rfl _ _ _) rfl ?_
  refine ⟨congrArg Ending.returned (congrArg Value.bool ?_), rfl⟩
  rw [Bool.eq_iff_iff]
  simp
  try omega
theorem nL (f x : Nat) (h1 : 224 ≤ f) (h2 : f ≤ 244) (hx : x < 256) (w : World) : Calls Tryz.prog 140 #[.int .u8 f, .int .u8 x] w fun e w' => e = .returned (.bool (Sq.second f x)) ∧ w = w' := by
 obtain ⟨a, b, ha, hb, hs⟩ := Sq.second_tab f x h1 h2 hx
 rw [hs]
 clear hs
 have t1 : ¬ (f : Int) < 224 := by omega
 have i1 : ∀ w, (Instr.index 9 (.string ⟨#[160, 128, 128, 128, 128, 128, 128, 128, 128, 128, 128, 128, 128, 128, 128, 128, 144, 128, 128, 128, 128]⟩) (.int .u8 ((f : Int) - 224))).run Tryz.prog w = .ok (.int .u8 a.toNat) w := fun w => by
  have := cI (P := Tryz.prog) Tryz.underlying9 Sq.lows .u8 (f - 224) a ha w
  rwa [show ((f - 224 : Nat) : Int) = (f : Int) - 224 by omega] at this
 have i2 : ∀ w, (Instr.index 9 (.string ⟨#[191, 191, 191, 191, 191, 191, 191, 191, 191, 191, 191, 191, 191, 159, 191, 191, 191, 191, 191, 191, 143]⟩) (.int .u8 ((f : Int) - 224))).run Tryz.prog w = .ok (.int .u8 b.toNat) w := fun w => by
  have := cI (P := Tryz.prog) Tryz.underlying9 Sq.highs .u8 (f - 224) b hb w
  rwa [show ((f - 224 : Nat) : Int) = (f : Int) - 224 by omega] at this
 clear ha hb
 refine aA Tryz.func140 rfl ?_
 intro Q_ hQ_
 simp only [Tryz.ntmps140, ents_, Nat.reduceAdd, Nat.reduceSub]
 go_wp2
 all_goals
  refine hQ_.ret (results_tmp rfl _ _ _) rfl ?_
  refine ⟨congrArg Ending.returned (congrArg Value.bool ?_), rfl⟩
  rw [Bool.eq_iff_iff]
  simp
  try omega
end Go.Proofs.YthdncmagfgoboaaGreatDoor
