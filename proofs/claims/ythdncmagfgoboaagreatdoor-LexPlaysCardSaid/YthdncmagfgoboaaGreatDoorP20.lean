/- One of the texts that lead to the theorem lexPlays.proved: the conditions stand in each theorem. -/
import Derived.Test.YthdncmagfgoboaaGreatDoorP18
import Derived.Test.YthdncmagfgoboaaGreatDoorP10
set_option linter.unusedSimpArgs false
set_option linter.unusedVariables false
namespace Go.Proofs.YthdncmagfgoboaaGreatDoor
open Go.RowKit
set_option maxRecDepth 100000
set_option maxHeartbeats 8000000
def jB (w : World) (v : Value) (l : List UInt8) : Prop := gP w 1 v l.length (bM l)
theorem cZ {T : TypeId} (w : World) (l : List UInt8) (k : Nat) : jB (w.alloc (.cells (bM l).toArray T)) (.slice (some ⟨w.heap.size, 0, none⟩) l.length k) l := by
 have := tG (w := w) (E := T) (c := (bM l).toArray) (m := l.length) (k := k) (size := 1) (by simp [bM]) (fun u hu => by
  simp [bM] at hu
  obtain ⟨a, _, rfl⟩ := hu
  rfl)
 simpa [jB] using this
theorem bS (n : Nat) (h : n < 256) : (((UInt8.ofNat n).toNat : Nat) : Int) = (n : Int) := by rw [UInt8.toNat_ofNat']; omega
theorem jA (n : Nat) (h : n < 2147483648) : bits .or .i32 128 (bits .and .i32 (n : Int) 63) % 256 = (((UInt8.ofNat (128 + n % 64)).toNat : Nat) : Int) := by
 rw [wW n h, bS _ (by omega)]; omega
theorem xS (a y k : Nat) (ha : a % 2 ^ k = 0) (hy : y < 2 ^ k) (h : a + y < 256) : bits .or .i32 (a : Int) (y : Int) % 256 = (((UInt8.ofNat (a + y)).toNat : Nat) : Int) := by
 rw [lM a y k ha hy (by omega) (by omega), bS _ h]; omega
theorem lX (z : Int) (hz : 0 ≤ z) (w : World) : Calls Tryz.prog 138 #[.int .i32 z] w fun e w' => ∃ v, e = .returned v ∧ jB w' v (Sq.enc z.toNat) ∧ Touch [] w w' := by
 have his := fun w => sis_z z hz w
 unfold Sq.enc
 cases hs : Sq.isS z.toNat with
 | false =>
  rw [hs] at his
  refine aA Tryz.func138 rfl ?_
  intro Q_ hQ_
  simp only [Tryz.ntmps138, ents_, Nat.reduceAdd, Nat.reduceSub]
  go_wp2_with fail
  refine (his _).mono ?_
  rintro e w1 ⟨rfl, rfl⟩
  try go_simp
  go_wp2
  refine hQ_.ret (results_tmp rfl _ _ _) rfl ?_
  exact ⟨_, rfl, ⟨rfl, by simp [bM], .inl ⟨rfl, rfl⟩⟩, Touch.refl _ _⟩
 | true =>
  have hzm : z ≤ 1114111 := by simp [Sq.isS] at hs; omega
  rw [hs] at his
  obtain ⟨n, rfl⟩ := Int.eq_ofNat_of_zero_le hz
  obtain ⟨z, hzz⟩ : ∃ z : Int, z = (n : Int) := ⟨_, rfl⟩
  have e0 : ((n : Int)).toNat = n := rfl
  rw [e0]
  rw [← hzz] at his hz hzm ⊢
  replace hzz := Box.mk hzz
  clear hs e0
  by_cases h1 : z < 128
  · rw [if_neg (by decide), if_pos (by have := hzz.out; omega)]
    refine aA Tryz.func138 rfl ?_
    intro Q_ hQ_
    simp only [Tryz.ntmps138, ents_, Nat.reduceAdd, Nat.reduceSub]
    go_wp2_with fail
    refine (his _).mono ?_
    rintro e w1 ⟨rfl, rfl⟩
    try go_simp
    go_wp2
    refine hQ_.ret (results_tmp rfl _ _ _) rfl ?_
    refine ⟨_, rfl, ?_, (Touch.refl _ _).alloc _⟩
    have e1 : z = (((UInt8.ofNat n).toNat : Nat) : Int) := by rw [bS _ (by have := hzz.out; omega)]; exact hzz.out
    rw [e1]
    exact cZ _ [_] _
  by_cases h2 : z < 2048
  · rw [if_neg (by decide), if_neg (by have := hzz.out; omega), if_pos (by have := hzz.out; omega)]
    refine aA Tryz.func138 rfl ?_
    intro Q_ hQ_
    simp only [Tryz.ntmps138, ents_, Nat.reduceAdd, Nat.reduceSub]
    go_wp2_with fail
    refine (his _).mono ?_
    rintro e w1 ⟨rfl, rfl⟩
    try go_simp
    go_wp2
    refine hQ_.ret (results_tmp rfl _ _ _) rfl ?_
    refine ⟨_, rfl, ?_, (Touch.refl _ _).alloc _⟩
    have hn := hzz.out
    rw [hn]
    have d1 : (n : Int) / 64 = ((n / 64 : Nat) : Int) := by omega
    have eh : (192 : Int) + ((n / 64 : Nat) : Int) = (((UInt8.ofNat (192 + n / 64)).toNat : Nat) : Int) := by rw [bS _ (by omega)]; omega
    rw [d1, jA n (by omega), eh]
    exact cZ _ [_, _] _
  by_cases h3 : z < 65536
  · rw [if_neg (by decide), if_neg (by have := hzz.out; omega), if_neg (by have := hzz.out; omega), if_pos (by have := hzz.out; omega)]
    refine aA Tryz.func138 rfl ?_
    intro Q_ hQ_
    simp only [Tryz.ntmps138, ents_, Nat.reduceAdd, Nat.reduceSub]
    go_wp2_with fail
    refine (his _).mono ?_
    rintro e w1 ⟨rfl, rfl⟩
    try go_simp
    go_wp2
    refine hQ_.ret (results_tmp rfl _ _ _) rfl ?_
    refine ⟨_, rfl, ?_, (Touch.refl _ _).alloc _⟩
    have hn := hzz.out
    rw [hn]
    have d1 : (n : Int) / 64 = ((n / 64 : Nat) : Int) := by omega
    have d2 : (n : Int) / 4096 = ((n / 4096 : Nat) : Int) := by omega
    rw [d1, d2, jA n (by omega), jA (n / 64) (by omega), show (224 : Int) = ((224 : Nat) : Int) from rfl, xS 224 (n / 4096) 4 (by decide) (by omega) (by omega)]
    exact cZ _ [_, _, _] _
  · rw [if_neg (by decide), if_neg (by have := hzz.out; omega), if_neg (by have := hzz.out; omega), if_neg (by have := hzz.out; omega)]
    refine aA Tryz.func138 rfl ?_
    intro Q_ hQ_
    simp only [Tryz.ntmps138, ents_, Nat.reduceAdd, Nat.reduceSub]
    go_wp2_with fail
    refine (his _).mono ?_
    rintro e w1 ⟨rfl, rfl⟩
    try go_simp
    go_wp2
    refine hQ_.ret (results_tmp rfl _ _ _) rfl ?_
    refine ⟨_, rfl, ?_, (Touch.refl _ _).alloc _⟩
    have hn := hzz.out
    rw [hn]
    have d1 : (n : Int) / 64 = ((n / 64 : Nat) : Int) := by omega
    have d2 : (n : Int) / 4096 = ((n / 4096 : Nat) : Int) := by omega
    have d3 : (n : Int) / 262144 = ((n / 262144 : Nat) : Int) := by omega
    rw [d1, d2, d3, jA n (by omega), jA (n / 64) (by omega), jA (n / 4096) (by omega), show (240 : Int) = ((240 : Nat) : Int) from rfl, xS 240 (n / 262144) 4 (by decide) (by omega) (by omega)]
    exact cZ _ [_, _, _, _] _
theorem rZ (z : Int) (hz : 0 ≤ z) (w : World) : Calls Tryz.prog 47 #[.int .i32 z] w fun e w' => ∃ v, e = .returned v ∧ jB w' v (Sq.enc z.toNat) ∧ Touch [] w w' := by
 have his := fun w => ris_z z hz w
 unfold Sq.enc
 cases hs : Sq.isS z.toNat with
 | false =>
  rw [hs] at his
  refine aA Tryz.func47 rfl ?_
  intro Q_ hQ_
  simp only [Tryz.ntmps47, ents_, Nat.reduceAdd, Nat.reduceSub]
  go_wp2_with fail
  refine (his _).mono ?_
  rintro e w1 ⟨rfl, rfl⟩
  try go_simp
  go_wp2
  refine hQ_.ret (results_tmp rfl _ _ _) rfl ?_
  exact ⟨_, rfl, ⟨rfl, by simp [bM], .inl ⟨rfl, rfl⟩⟩, Touch.refl _ _⟩
 | true =>
  have hzm : z ≤ 1114111 := by simp [Sq.isS] at hs; omega
  rw [hs] at his
  obtain ⟨n, rfl⟩ := Int.eq_ofNat_of_zero_le hz
  obtain ⟨z, hzz⟩ : ∃ z : Int, z = (n : Int) := ⟨_, rfl⟩
  have e0 : ((n : Int)).toNat = n := rfl
  rw [e0]
  rw [← hzz] at his hz hzm ⊢
  replace hzz := Box.mk hzz
  clear hs e0
  by_cases h1 : z < 128
  · rw [if_neg (by decide), if_pos (by have := hzz.out; omega)]
    refine aA Tryz.func47 rfl ?_
    intro Q_ hQ_
    simp only [Tryz.ntmps47, ents_, Nat.reduceAdd, Nat.reduceSub]
    go_wp2_with fail
    refine (his _).mono ?_
    rintro e w1 ⟨rfl, rfl⟩
    try go_simp
    go_wp2
    refine hQ_.ret (results_tmp rfl _ _ _) rfl ?_
    refine ⟨_, rfl, ?_, (Touch.refl _ _).alloc _⟩
    have e1 : z = (((UInt8.ofNat n).toNat : Nat) : Int) := by rw [bS _ (by have := hzz.out; omega)]; exact hzz.out
    rw [e1]
    exact cZ _ [_] _
  by_cases h2 : z < 2048
  · rw [if_neg (by decide), if_neg (by have := hzz.out; omega), if_pos (by have := hzz.out; omega)]
    refine aA Tryz.func47 rfl ?_
    intro Q_ hQ_
    simp only [Tryz.ntmps47, ents_, Nat.reduceAdd, Nat.reduceSub]
    go_wp2_with fail
    refine (his _).mono ?_
    rintro e w1 ⟨rfl, rfl⟩
    try go_simp
    go_wp2
    refine hQ_.ret (results_tmp rfl _ _ _) rfl ?_
    refine ⟨_, rfl, ?_, (Touch.refl _ _).alloc _⟩
    have hn := hzz.out
    have eh : (192 : Int) + z / 64 = (((UInt8.ofNat (192 + n / 64)).toNat : Nat) : Int) := by rw [bS _ (by omega)]; omega
    have et : (128 : Int) + z % 64 = (((UInt8.ofNat (128 + n % 64)).toNat : Nat) : Int) := by rw [bS _ (by omega)]; omega
    rw [et, eh]
    exact cZ _ [_, _] _
  by_cases h3 : z < 65536
  · rw [if_neg (by decide), if_neg (by have := hzz.out; omega), if_neg (by have := hzz.out; omega), if_pos (by have := hzz.out; omega)]
    refine aA Tryz.func47 rfl ?_
    intro Q_ hQ_
    simp only [Tryz.ntmps47, ents_, Nat.reduceAdd, Nat.reduceSub]
    go_wp2_with fail
    refine (his _).mono ?_
    rintro e w1 ⟨rfl, rfl⟩
    try go_simp
    go_wp2
    refine hQ_.ret (results_tmp rfl _ _ _) rfl ?_
    refine ⟨_, rfl, ?_, (Touch.refl _ _).alloc _⟩
    have hn := hzz.out
    have eh : (224 : Int) + z / 4096 = (((UInt8.ofNat (224 + n / 4096)).toNat : Nat) : Int) := by rw [bS _ (by omega)]; omega
    have et : (128 : Int) + z % 64 = (((UInt8.ofNat (128 + n % 64)).toNat : Nat) : Int) := by rw [bS _ (by omega)]; omega
    have em : (128 : Int) + z / 64 % 64 = (((UInt8.ofNat (128 + n / 64 % 64)).toNat : Nat) : Int) := by rw [bS _ (by omega)]; omega
    rw [et, em, eh]
    exact cZ _ [_, _, _] _
  · rw [if_neg (by decide), if_neg (by have := hzz.out; omega), if_neg (by have := hzz.out; omega), if_neg (by have := hzz.out; omega)]
    refine aA Tryz.func47 rfl ?_
    intro Q_ hQ_
    simp only [Tryz.ntmps47, ents_, Nat.reduceAdd, Nat.reduceSub]
    go_wp2_with fail
    refine (his _).mono ?_
    rintro e w1 ⟨rfl, rfl⟩
    try go_simp
    go_wp2
    refine hQ_.ret (results_tmp rfl _ _ _) rfl ?_
    refine ⟨_, rfl, ?_, (Touch.refl _ _).alloc _⟩
    have hn := hzz.out
    have eh : (240 : Int) + z / 262144 = (((UInt8.ofNat (240 + n / 262144)).toNat : Nat) : Int) := by rw [bS _ (by omega)]; omega
    have et : (128 : Int) + z % 64 = (((UInt8.ofNat (128 + n % 64)).toNat : Nat) : Int) := by rw [bS _ (by omega)]; omega
    have em : (128 : Int) + z / 64 % 64 = (((UInt8.ofNat (128 + n / 64 % 64)).toNat : Nat) : Int) := by rw [bS _ (by omega)]; omega
    have ek : (128 : Int) + z / 4096 % 64 = (((UInt8.ofNat (128 + n / 4096 % 64)).toNat : Nat) : Int) := by rw [bS _ (by omega)]; omega
    rw [et, em, ek, eh]
    exact cZ _ [_, _, _, _] _
end Go.Proofs.YthdncmagfgoboaaGreatDoor
