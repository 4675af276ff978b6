/- One of the texts that lead to the theorem lexPlays.proved: the conditions stand in each theorem. -/
import Derived.Test.YthdncmagfgoboaaGreatDoorP7
import Derived.Test.YthdncmagfgoboaaGreatDoorP5
import Derived.Lib.ConvBytes
import Derived.Lib.SlBytesConst
import Derived.Outline
import Derived.Deep.DeepCutAuto
import Derived.Deep.RegionHeld3
import Derived.StillTailTactics
set_option linter.unusedSimpArgs false
set_option linter.unusedVariables false
section
namespace Go.Proofs.YthdncmagfgoboaaGreatDoor
open Go.RowKit Go.Shelf
set_option maxRecDepth 100000
set_option maxHeartbeats 4000000
theorem nM (l : List UInt8) (w : World) :
 Calls Tryz.prog 118 #[.string (str l), .string ⟨#[48, 49, 50, 51, 52, 53, 54, 55, 56, 57]⟩] w fun e w' => e = .returned (.string (str (l.dropWhile Dig.dig))) ∧ Touch [] w w' := by
 have hcon := Any.strings_TrimLeft_laid Tryz.lays161 (by kernel_rfl) (str l) ⟨#[48, 49, 50, 51, 52, 53, 54, 55, 56, 57]⟩ w (by decide) (ascii_of_all (by decide))
 refine hcon.mono fun e w' ⟨h1, h2⟩ => ⟨?_, Touch.of_below h2 _⟩
 rw [h1, cM]
 have := Dig.trimLeft_digits l
 simp only [this]
 rfl
theorem rE (l : List UInt8) (w : World) :
 Calls Tryz.prog 118 #[.string (str l), .string ⟨#[48]⟩] w fun e w' => e = .returned (.string (str (Dig.cutL l))) ∧ Touch [] w w' := by
 have hcon := Any.strings_TrimLeft_laid Tryz.lays161 (by kernel_rfl) (str l) ⟨#[48]⟩ w (by decide) (ascii_of_all (by decide))
 refine hcon.mono fun e w' ⟨h1, h2⟩ => ⟨?_, Touch.of_below h2 _⟩
 rw [h1, cM]
 have e : Lib.trimLeftS l [48] = Dig.cutL l := by
  unfold Lib.trimLeftS Dig.cutL
  congr 1
  funext b
  simp
  rfl
 simp only [e]
 rfl
theorem dN (l : List UInt8) (w : World) (hl : l.length ≤ 1000000000000000) :
 Calls Tryz.prog 90 #[.string (str l)] w fun e w' => e = .returned (.int .i64 (Dig.run l)) ∧ Touch [] w w' := by
 obtain ⟨r, hr⟩ : ∃ r, r = l.dropWhile Dig.dig := ⟨_, rfl⟩
 have hcall := nM l
 rw [← hr] at hcall
 have hlen : Box (l.length = Dig.run l + r.length) := ⟨by
  have := Dig.dropWhile_len Dig.dig l
  have := Dig.takeWhile_le Dig.dig l
  rw [hr]; unfold Dig.run; omega⟩
 have hrl : r.length ≤ l.length := by have := hlen.out; omega
 have sz := aR l
 have szr := aR r
 clear hr
 go_enter Tryz.func90, Tryz.ntmps90
 go_wp2_with fail
 refine (hcall _).mono ?_
 rintro e w1 ⟨rfl, ht1⟩
 try go_simp
 go_wp2
 go_ret
 exact ⟨by have := hlen.out; rw [show (Dig.run l : Int) = (l.length : Int) - r.length by omega]; rfl, ht1⟩
theorem eT (l : List UInt8) (w : World) : (convert 9 22 (.string (str l))).run Tryz.prog w = .ok (.slice (some ⟨w.heap.size, 0, none⟩) l.length (grownCap w l.length 0 5)) (Lib.bytesWorld w 5 (str l)) :=
 Lib.run_convert_string_bytes w 9 22 5 (str l) Tryz.underlying9 Tryz.underlying22 Tryz.underlying5
theorem cT (w : World) (s : ByteArray) : Touch [] w (Lib.bytesWorld w 5 s) :=
 ⟨rfl, rfl, rfl, by rw [Lib.bytesWorld_size]; omega, fun k hk _ => Lib.bytesWorld_at_old w _ s k hk⟩
theorem mU (x : Dig.Dec) (w : World) (hl : x.d.length ≤ 1000000000000) (he : x.e ≤ 1000000000000) (he' : -1000000000000 ≤ x.e) :
 Calls Tryz.prog 92 #[dec x] w fun e w' => e = .returned (dec (Dig.norm x)) ∧ Touch [] w w' := by
 obtain ⟨sg, d, E⟩ := x
 obtain ⟨L, hL⟩ : ∃ L, L = Dig.cutL d := ⟨_, rfl⟩
 have hcall := rE d
 rw [← hL] at hcall
 have hLl : L.length ≤ d.length := by rw [hL]; exact Dig.cutL_le d
 replace hL : Box (L = Dig.cutL d) := ⟨hL⟩
 have hl : d.length ≤ 1000000000000 := hl
 have sz := aR d
 have szL := aR L
 simp only [dec]
 go_enter Tryz.func92, Tryz.ntmps92
 go_wp2_with fail
 refine (hcall _).mono ?_
 rintro e w1 ⟨rfl, ht1⟩
 try go_simp
 have hcv := eT L
 go_wp2
 have hA : (Lib.bytesWorld w1 5 (str L)).heap[w.heap.size]? = some (.cells #[.bool sg, .string (str d), .int .i64 E] 116) := by
  rw [Lib.bytesWorld_at_old _ _ _ _ (Nat.lt_of_lt_of_le (by simp; omega) ht1.size)]
  exact ht1.keep (aW (aZ _ _) _) (by simp)
 have hR : (Lib.bytesWorld w1 5 (str L)).heap[w.heap.size + 1]? = some (.cells #[.bool false, .string ⟨#[]⟩, .int .i64 0] 116) := by
  rw [Lib.bytesWorld_at_old _ _ _ _ (Nat.lt_of_lt_of_le (by simp) ht1.size)]
  exact ht1.keep (fL _ _ _) (by simp)
 have hcell : ∀ j b, L[j]? = some b → (Lib.bytesWorld w1 5 (str L)).cell? ⟨w1.heap.size, j, none⟩ = some (.int .u8 b.toNat) := fun j b hj => by
  have := Lib.bytesWorld_cell w1 5 (str L) j (by rw [aR]; exact (List.getElem?_eq_some_iff.1 hj).1)
  rw [cM, List.getD_eq_getElem?_getD, hj] at this
  exact this
 have hs : w1.heap.size < (Lib.bytesWorld w1 5 (str L)).heap.size := by rw [Lib.bytesWorld_size]; omega
 have hT : Touch [] w (Lib.bytesWorld w1 5 (str L)) := ((((Touch.refl _ _).alloc _).alloc _).trans ht1).trans (cT w1 (str L))
 have hs1 : w.heap.size + 2 ≤ w1.heap.size := by have := ht1.size; simp at this; omega
 have hcap := grownCap_ge w1 L.length 0 5
 obtain ⟨C, hC⟩ : ∃ C, C = grownCap w1 L.length 0 5 := ⟨_, rfl⟩
 obtain ⟨W, hW⟩ : ∃ W, W = Lib.bytesWorld w1 5 (str L) := ⟨_, rfl⟩
 rw [← hW] at hA hR hcell hs hT ⊢
 rw [← hC] at hcap ⊢
 clear hW hC hcv ht1 hcall
 have hL0 : Box (∃ M, Dig.cutL d = M ∧ M = L) := ⟨_, rfl, hL.out.symm⟩
 have hb1 : ¬ w1.heap.size = w.heap.size := by omega
 have hb2 : ¬ w1.heap.size = w.heap.size + 1 := by omega
 go_loop [4] (fun v => ∃ n : Nat, n ≤ L.length ∧ v = .int .i64 n ∧ Dig.cutR (L.take n) = Dig.cutR L) (fun v => (intOf v).toNat)
 case atStart => exact ⟨L.length, Nat.le_refl _, rfl, by rw [List.take_length]⟩
 case round =>
  obtain ⟨n, hn, rfl, hcut0⟩ := hrel
  have hcut : Box (Dig.cutR (L.take n) = Dig.cutR L) := ⟨hcut0⟩
  clear hcut0
  have ⟨c0,c1,c2⟩ := cs3 hA
  have ⟨f0,f1,f2⟩ := fs3 hA
  have ⟨r0,r1,r2⟩ := cs3 hR
  have ⟨g0,g1,g2⟩ := fs3 hR
  have hz0 : w.heap.size < W.heap.size := by omega
  have hz1 : w.heap.size + 1 < W.heap.size := by omega
  try simp at c0 c1 c2 r0 r1 r2
  by_cases h0 : n = 0
  · have t0 : ¬ 0 < n := by omega
    have t2 : ((n : Int) == 0) = true := by rw [h0]; rfl
    have hn0 : Box (Dig.norm ⟨sg, d, E⟩ = Dig.zero) := ⟨by
     unfold Dig.norm
     have : Dig.core d = [] := by
      unfold Dig.core
      rw [← hL.out, ← hcut.out, h0]; rfl
     rw [if_pos this]⟩
    clear h0
    go_wp2
    exact bodyPost_ret (v := dec Dig.zero) (by simp [results, Tryz.results92, go_sem, Dig.zero, str, r0, r1, r2]) rfl ⟨by rw [hn0.out], ((hT.setCell (by simp) _).setCell (by simp) _).setCell (by simp) _⟩
  · obtain ⟨p, hp⟩ : ∃ p, n = p + 1 := ⟨n - 1, by omega⟩
    obtain ⟨c, hc⟩ : ∃ c, L[p]? = some c := ⟨L[p]'(by omega), by simp⟩
    have hcl := hcell p c hc
    subst hp
    have t0 : 0 < p + 1 := by omega
    have t2 : (((p + 1 : Nat) : Int) == 0) = false := by rw [beq_eq_false_iff_ne]; omega
    have t3 : (((p : Nat) : Int) + 1 == 0) = false := by rw [beq_eq_false_iff_ne]; omega
    have htk : Box (L.take (p + 1) = L.take p ++ [c]) := ⟨by rw [List.take_add_one, hc]; rfl⟩
    clear hc h0
    by_cases h1 : c = 48
    · have t1 : ((c.toNat : Int) == 48) = true := by rw [h1]; rfl
      have hcp : Box (Dig.cutR (L.take p) = Dig.cutR L) := ⟨by rw [← hcut.out, htk.out, h1, Dig.cutR_snoc]⟩
      clear h1
      go_wp2
      go_round
      case measure => simp [intOf]
      case rel => exact ⟨p, by omega, by go_num, hcp.out⟩
    · have t1 : ((c.toNat : Int) == 48) = false := by rw [oZ]; simpa using h1
      have hn0 : Box (Dig.norm ⟨sg, d, E⟩ = ⟨sg, L.take (p + 1), E + ((L.length : Int) - ((p : Int) + 1))⟩) := ⟨by
       unfold Dig.norm
       have : Dig.core d = L.take (p + 1) := by
        unfold Dig.core
        rw [← hL.out, ← hcut.out, htk.out, Dig.cutR_of_last _ _ h1]
       rw [if_neg (by rw [this, htk.out]; simp), this, ← hL.out, List.length_take, Nat.min_eq_left hn]
       rfl⟩
      clear h1
      have hback : ∀ X, (convert 22 9 (.slice (some ⟨w1.heap.size, 0, none⟩) (p + 1) (p + 1))).run Tryz.prog (W.setCell ⟨w.heap.size, 2, none⟩ X) = .ok (.string (str (L.take (p + 1)))) (W.setCell ⟨w.heap.size, 2, none⟩ X) := fun X => by
       have hlen : (L.take (p + 1)).length = p + 1 := by rw [List.length_take, Nat.min_eq_left hn]
       have := run_convert_bytes_back (P := Tryz.prog) (W.setCell ⟨w.heap.size, 2, none⟩ X) 22 9 5 ⟨w1.heap.size, 0, none⟩ (p + 1) (L.take (p + 1)) Tryz.underlying22 Tryz.underlying5 Tryz.underlying9 (fun k hk => by
        rw [hlen] at hk
        have e1 : (⟨w1.heap.size, 0, none⟩ : Addr).add k = ⟨w1.heap.size, k, none⟩ := by unfold Addr.add; split <;> simp_all
        have e2 : (W.setCell ⟨w.heap.size, 2, none⟩ X).cell? ⟨w1.heap.size, k, none⟩ = W.cell? ⟨w1.heap.size, k, none⟩ := World.cell?_of_block (Below.heap_setCell _ _ _ _ (fun e => hb1 e))
        rw [e1, e2, List.getElem_take]
        exact hcell k _ (by rw [List.getElem?_eq_getElem]))
       rw [hlen] at this
       exact this
      have hcapn : p + 1 ≤ C := by omega
      go_wp2
      exact bodyPost_ret (v := dec ⟨sg, L.take (p + 1), E + ((L.length : Int) - ((p : Int) + 1))⟩) (by simp [results, Tryz.results92, go_sem, r0, r1, r2]) rfl ⟨by rw [hn0.out], ((((hT.setCell (by simp) _).setCell (by simp) _).setCell (by simp) _).setCell (by simp) _).setCell (by simp) _⟩
end Go.Proofs.YthdncmagfgoboaaGreatDoor
end
section
namespace Go.Proofs.YthdncmagfgoboaaGreatDoor
open Go.RowKit Go.Shelf
set_option maxRecDepth 100000
set_option maxHeartbeats 4000000
theorem iF (c : UInt8) (u : List UInt8) (w : World) :
 Calls Tryz.prog 89 #[.string (str (c :: u)), .string ⟨#[c]⟩] w fun e w' => e = .returned (.tuple #[.string (str u), .bool true]) ∧ w = w' := by
 have := (Tryz.strings_CutPrefix (str (c :: u)) ⟨#[c]⟩ w).mono (fun _ _ h => And.intro h.1 h.2.symm)
 simp only [cM] at this
 have e1 : Lib.trimPrefix (c :: u) [c] = u := by simp [Lib.trimPrefix, Lib.hasPrefix]
 have e2 : Lib.hasPrefix (c :: u) [c] = true := by simp [Lib.hasPrefix]
 rw [e1, e2] at this
 exact this
theorem kF (c : UInt8) (t : List UInt8) (ht : t.head? ≠ some c) (w : World) :
 Calls Tryz.prog 89 #[.string (str t), .string ⟨#[c]⟩] w fun e w' => e = .returned (.tuple #[.string (str t), .bool false]) ∧ w = w' := by
 have := (Tryz.strings_CutPrefix (str t) ⟨#[c]⟩ w).mono (fun _ _ h => And.intro h.1 h.2.symm)
 simp only [cM] at this
 have e2 : Lib.hasPrefix t [c] = false := by
  cases t with
  | nil => rfl
  | cons b t =>
   have : (c == b) = false := by simpa using fun e => ht (by rw [e]; rfl)
   show (c == b && List.isPrefixOf [] t) = false
   rw [this]; rfl
 have e1 : Lib.trimPrefix t [c] = t := by unfold Lib.trimPrefix; rw [e2]; rfl
 rw [e1, e2] at this
 exact this
theorem mI (c : UInt8) (u : List UInt8) (w : World) :
 Calls Tryz.prog 119 #[.string (str (c :: u)), .string ⟨#[c]⟩] w fun e w' => e = .returned (.string (str u)) ∧ w = w' := by
 have := (Tryz.strings_TrimPrefix (str (c :: u)) ⟨#[c]⟩ w).mono (fun _ _ h => And.intro h.1 h.2.symm)
 simp only [cM] at this
 have e1 : Lib.trimPrefix (c :: u) [c] = u := by simp [Lib.trimPrefix, Lib.hasPrefix]
 rw [e1] at this
 exact this
theorem pF (c : UInt8) (t : List UInt8) (ht : t.head? ≠ some c) (w : World) :
 Calls Tryz.prog 119 #[.string (str t), .string ⟨#[c]⟩] w fun e w' => e = .returned (.string (str t)) ∧ w = w' := by
 have := (Tryz.strings_TrimPrefix (str t) ⟨#[c]⟩ w).mono (fun _ _ h => And.intro h.1 h.2.symm)
 simp only [cM] at this
 have e2 : Lib.hasPrefix t [c] = false := by
  cases t with
  | nil => rfl
  | cons b t =>
   have : (c == b) = false := by simpa using fun e => ht (by rw [e]; rfl)
   show (c == b && List.isPrefixOf [] t) = false
   rw [this]; rfl
 have e1 : Lib.trimPrefix t [c] = t := by unfold Lib.trimPrefix; rw [e2]; rfl
 rw [e1] at this
 exact this
theorem wB (l : List UInt8) (w : World) (hl : l.length ≤ 1000000000000) :
 Calls Tryz.prog 91 #[.string (str l)] w fun e w' => e = .returned (.tuple #[.int .i64 ((Dig.readExp l).getD 0), .bool (Dig.readExp l).isSome]) ∧ Touch [] w w' := by
 obtain ⟨L, hL⟩ : ∃ L, L = l := ⟨_, rfl⟩
 cases hl0 : l with
 | nil =>
  rw [← hL] at hl0
  have t1 : (str []).toList.isEmpty = true := by rw [bI]; rfl
  have t2 : ((str []).toList == ([] : List UInt8)) = true := by rw [bI]; rfl
  clear hl0 hL hl
  go_enter Tryz.func91, Tryz.ntmps91
  go_wp2
  go_ret2
  exact ⟨rfl, Touch.refl _ _⟩
 | cons c t =>
  rw [hl0] at hl
  have t1 : (str (c :: t)).toList.isEmpty = false := by rw [bI]; rfl
  have t2 : ((str (c :: t)).toList == ([] : List UInt8)) = false := by rw [bI]; rfl
  have i0 : ∀ w, (Instr.index 9 (.string (str (c :: t))) (.int .i64 0)).run Tryz.prog w = .ok (.int .u8 c.toNat) w := fun w => cI Tryz.underlying9 (c :: t) .i64 0 c rfl w
  have i1 : ∀ w, (Instr.slice 9 (.string (str (c :: t))) (some (.int .i64 1)) none none).run Tryz.prog w = .ok (.string (str t)) w := fun w => by
   have := iA Tryz.underlying9 (c :: t) .i64 1 (by simp) w
   exact this
  clear hl0 hL
  obtain ⟨l, hl'⟩ : ∃ l, l = c :: t := ⟨_, rfl⟩
  by_cases hce : (c == 101 || c == 69) = true
  · have e0 : Box (Dig.readExp l = if t.head? = some 45 then (Dig.expDigits t.tail).map (fun n => -(n : Int)) else if t.head? = some 43 then (Dig.expDigits t.tail).map (fun n => (n : Int)) else (Dig.expDigits t).map (fun n => (n : Int))) := ⟨by rw [hl']; unfold Dig.readExp; exact if_pos hce⟩
    have hb : ((c.toNat : Int) == 101) = decide (c = 101) ∧ ((c.toNat : Int) == 69) = decide (c = 69) := ⟨lT c, oY c⟩
    by_cases h101 : c = 101
    · have q1 : ((c.toNat : Int) == 101) = true := by rw [hb.1]; simpa using h101
      have q2 : ((c.toNat : Int) != 101) = false := by rw [bne, q1]; rfl
      clear hb h101 hce
      have hl'b : Box (c :: t = l) := ⟨hl'.symm⟩
      clear hl'
      by_cases h45 : t.head? = some 45
      · obtain ⟨u, hu⟩ : ∃ u, t = 45 :: u := by cases t with | nil => simp at h45 | cons b u => exact ⟨u, by simp at h45; rw [h45]⟩
        have hsp : Box (Dig.readExp l = (Dig.expDigits u).map (fun n => -(n : Int))) := ⟨by rw [e0.out, if_pos h45, hu]; rfl⟩
        subst hu
        have hcp := iF 45 u
        clear h45 e0
        go_enter Tryz.func91, Tryz.ntmps91
        go_wp2_with fail
        refine (hcp _).mono ?_
        rintro e w0 ⟨rfl, rfl⟩
        try go_simp
        clear hcp i0 i1 t1 t2
        by_cases hu0 : u = []
        · have t1 : (str u).toList.isEmpty = true := by rw [bI, hu0]; rfl
          have t2 : ((str u).toList == ([] : List UInt8)) = true := by rw [bI, hu0]; rfl
          have hr : Box (Dig.readExp l = none) := ⟨by rw [hsp.out]; unfold Dig.expDigits; rw [if_pos (Or.inl hu0)]; rfl⟩
          clear hu0
          go_wp2
          go_ret2
          exact ⟨by rw [hl'b.out, hr.out]; rfl, Touch.refl _ _⟩
        have t1 : (str u).toList.isEmpty = false := by rw [bI]; simpa using hu0
        have t2 : ((str u).toList == ([] : List UInt8)) = false := by rw [bI]; simpa using hu0
        have hu1 : Box (u ≠ []) := ⟨hu0⟩
        clear hu0
        have hul : (u).length ≤ 1000000000000 := by first | assumption | (simp at hl; omega)
        obtain ⟨r, hr0⟩ : ∃ r, r = Dig.run u := ⟨_, rfl⟩
        have hcall := fun w => dN u w (by omega)
        rw [← hr0] at hcall
        have hrl : r ≤ (u).length := by rw [hr0]; exact Dig.run_le _
        replace hr0 : Box (r = Dig.run u) := ⟨hr0⟩
        go_wp2_with fail
        refine (hcall _).mono ?_
        rintro e w1 ⟨rfl, ht1⟩
        try go_simp
        have szu := aR u
        by_cases hrn : r = (u).length
        · have t3 : ((r : Int) != ((u).length : Int)) = false := by simp [hrn]
          have t4 : ((r : Int) == ((u).length : Int)) = true := by simp [hrn]
          obtain ⟨a, ha⟩ : ∃ a, a = (u).foldl Dig.expo 0 := ⟨_, rfl⟩
          have hval : Box (Dig.readExp l = some (-(a : Int))) := ⟨by
           rw [hsp.out, Dig.expDigits_eq _ r hr0.out, if_neg (by have := List.length_pos_iff.2 hu1.out; omega), hrn, List.take_length, ← ha]; rfl⟩
          replace ha : Box (a = (u).foldl Dig.expo 0) := ⟨ha⟩
          have hall : Box ((u).all Dig.dig = true) := ⟨by have := Dig.run_take u; rw [← hr0.out, hrn, List.take_length] at this; exact this⟩
          clear hrn
          have hcv := eT u
          go_wp2
          have hcell : ∀ j b, (u)[j]? = some b → (Lib.bytesWorld w1 5 (str u)).cell? ⟨w1.heap.size, j, none⟩ = some (.int .u8 b.toNat) := fun j b hj => by
           have := Lib.bytesWorld_cell w1 5 (str u) j (by rw [aR]; exact (List.getElem?_eq_some_iff.1 hj).1)
           rw [cM, List.getD_eq_getElem?_getD, hj] at this
           exact this
          have hT : Touch [] w (Lib.bytesWorld w1 5 (str u)) := ht1.trans (cT w1 (str u))
          obtain ⟨C, hC⟩ : ∃ C, C = grownCap w1 (u).length 0 5 := ⟨_, rfl⟩
          obtain ⟨W, hW⟩ : ∃ W, W = Lib.bytesWorld w1 5 (str u) := ⟨_, rfl⟩
          rw [← hW] at hcell hT ⊢
          rw [← hC]
          clear hW hC hcv ht1 hcall
          have hcellb : Box (∀ j b, (u)[j]? = some b → W.cell? ⟨w1.heap.size, j, none⟩ = some (.int .u8 b.toNat)) := ⟨hcell⟩
          clear hcell
          go_loop [6, 42] (fun n i => ∃ (a s : Nat), s ≤ (u).length ∧ a ≤ 1000000000 ∧ i = .int .i64 s ∧ n = .int .i64 a ∧ Box (a = ((u).take s).foldl Dig.expo 0)) (fun _ i => (u).length - (intOf i).toNat)
          case atStart => exact ⟨0, 0, by omega, by omega, rfl, rfl, ⟨rfl⟩⟩
          case round =>
           obtain ⟨b, s, hsm, hb, rfl, rfl, hbe⟩ := hrel
           by_cases hlt : s < (u).length
           · obtain ⟨c, hc⟩ : ∃ c, (u)[s]? = some c := ⟨(u)[s], by simp [hlt]⟩
             have hcd := Dig.dig_le c (Dig.all_mem _ s c hall.out hc)
             have hcl := hcellb.out s c hc
             have hcb : Box ((u)[s]? = some c) := ⟨hc⟩
             clear hc
             go_wp2
             all_goals
              go_round
              case measure => simp [intOf]; omega
              case rel =>
               refine ⟨Dig.expo b c, s + 1, by omega, Nat.min_le_right _ _, by go_num, ?_, ⟨?_⟩⟩
               · unfold Dig.expo
                 congr 1; omega
               · rw [List.take_add_one, hcb.out, Option.toList_some, List.foldl_append, ← hbe.out]; rfl
           · have hsn : (u).take s = u := List.take_of_length_le (by omega)
             have hba : b = a := by rw [hbe.out, hsn, ← ha.out]
             subst hba
             clear hsn
             go_wp2
             go_ret2
             exact ⟨by rw [hl'b.out, hval.out]; rfl, hT⟩
        · have t3 : ((r : Int) != ((u).length : Int)) = true := by simp; omega
          have t4 : ((r : Int) == ((u).length : Int)) = false := by rw [beq_eq_false_iff_ne]; omega
          have hr : Box (Dig.readExp l = none) := ⟨by rw [hsp.out, Dig.expDigits_eq _ r hr0.out, if_pos (Or.inr (by omega))]; rfl⟩
          clear hrn hcall
          go_wp2
          go_ret2
          exact ⟨by rw [hl'b.out, hr.out]; rfl, ht1⟩
      · have hcp := kF 45 t h45
        by_cases h43 : t.head? = some 43
        · obtain ⟨u, hu⟩ : ∃ u, t = 43 :: u := by cases t with | nil => simp at h43 | cons b u => exact ⟨u, by simp at h43; rw [h43]⟩
          have hsp : Box (Dig.readExp l = (Dig.expDigits u).map (fun n => (n : Int))) := ⟨by rw [e0.out, if_neg h45, if_pos h43, hu]; rfl⟩
          subst hu
          have htp := mI 43 u
          clear h45 h43 e0
          go_enter Tryz.func91, Tryz.ntmps91
          go_wp2_with fail
          refine (hcp _).mono ?_
          rintro e w0 ⟨rfl, rfl⟩
          try go_simp
          go_wp2_with fail
          refine (htp _).mono ?_
          rintro e w0 ⟨rfl, rfl⟩
          try go_simp
          clear hcp htp i0 i1 t1 t2
          by_cases hu0 : u = []
          · have t1 : (str u).toList.isEmpty = true := by rw [bI, hu0]; rfl
            have t2 : ((str u).toList == ([] : List UInt8)) = true := by rw [bI, hu0]; rfl
            have hr : Box (Dig.readExp l = none) := ⟨by rw [hsp.out]; unfold Dig.expDigits; rw [if_pos (Or.inl hu0)]; rfl⟩
            clear hu0
            go_wp2
            go_ret2
            exact ⟨by rw [hl'b.out, hr.out]; rfl, Touch.refl _ _⟩
          have t1 : (str u).toList.isEmpty = false := by rw [bI]; simpa using hu0
          have t2 : ((str u).toList == ([] : List UInt8)) = false := by rw [bI]; simpa using hu0
          have hu1 : Box (u ≠ []) := ⟨hu0⟩
          clear hu0
          have hul : (u).length ≤ 1000000000000 := by first | assumption | (simp at hl; omega)
          obtain ⟨r, hr0⟩ : ∃ r, r = Dig.run u := ⟨_, rfl⟩
          have hcall := fun w => dN u w (by omega)
          rw [← hr0] at hcall
          have hrl : r ≤ (u).length := by rw [hr0]; exact Dig.run_le _
          replace hr0 : Box (r = Dig.run u) := ⟨hr0⟩
          go_wp2_with fail
          refine (hcall _).mono ?_
          rintro e w1 ⟨rfl, ht1⟩
          try go_simp
          have szu := aR u
          by_cases hrn : r = (u).length
          · have t3 : ((r : Int) != ((u).length : Int)) = false := by simp [hrn]
            have t4 : ((r : Int) == ((u).length : Int)) = true := by simp [hrn]
            obtain ⟨a, ha⟩ : ∃ a, a = (u).foldl Dig.expo 0 := ⟨_, rfl⟩
            have hval : Box (Dig.readExp l = some (a : Int)) := ⟨by
             rw [hsp.out, Dig.expDigits_eq _ r hr0.out, if_neg (by have := List.length_pos_iff.2 hu1.out; omega), hrn, List.take_length, ← ha]; rfl⟩
            replace ha : Box (a = (u).foldl Dig.expo 0) := ⟨ha⟩
            have hall : Box ((u).all Dig.dig = true) := ⟨by have := Dig.run_take u; rw [← hr0.out, hrn, List.take_length] at this; exact this⟩
            clear hrn
            have hcv := eT u
            go_wp2
            have hcell : ∀ j b, (u)[j]? = some b → (Lib.bytesWorld w1 5 (str u)).cell? ⟨w1.heap.size, j, none⟩ = some (.int .u8 b.toNat) := fun j b hj => by
             have := Lib.bytesWorld_cell w1 5 (str u) j (by rw [aR]; exact (List.getElem?_eq_some_iff.1 hj).1)
             rw [cM, List.getD_eq_getElem?_getD, hj] at this
             exact this
            have hT : Touch [] w (Lib.bytesWorld w1 5 (str u)) := ht1.trans (cT w1 (str u))
            obtain ⟨C, hC⟩ : ∃ C, C = grownCap w1 (u).length 0 5 := ⟨_, rfl⟩
            obtain ⟨W, hW⟩ : ∃ W, W = Lib.bytesWorld w1 5 (str u) := ⟨_, rfl⟩
            rw [← hW] at hcell hT ⊢
            rw [← hC]
            clear hW hC hcv ht1 hcall
            have hcellb : Box (∀ j b, (u)[j]? = some b → W.cell? ⟨w1.heap.size, j, none⟩ = some (.int .u8 b.toNat)) := ⟨hcell⟩
            clear hcell
            go_loop [6, 42] (fun n i => ∃ (a s : Nat), s ≤ (u).length ∧ a ≤ 1000000000 ∧ i = .int .i64 s ∧ n = .int .i64 a ∧ Box (a = ((u).take s).foldl Dig.expo 0)) (fun _ i => (u).length - (intOf i).toNat)
            case atStart => exact ⟨0, 0, by omega, by omega, rfl, rfl, ⟨rfl⟩⟩
            case round =>
             obtain ⟨b, s, hsm, hb, rfl, rfl, hbe⟩ := hrel
             by_cases hlt : s < (u).length
             · obtain ⟨c, hc⟩ : ∃ c, (u)[s]? = some c := ⟨(u)[s], by simp [hlt]⟩
               have hcd := Dig.dig_le c (Dig.all_mem _ s c hall.out hc)
               have hcl := hcellb.out s c hc
               have hcb : Box ((u)[s]? = some c) := ⟨hc⟩
               clear hc
               go_wp2
               all_goals
                go_round
                case measure => simp [intOf]; omega
                case rel =>
                 refine ⟨Dig.expo b c, s + 1, by omega, Nat.min_le_right _ _, by go_num, ?_, ⟨?_⟩⟩
                 · unfold Dig.expo
                   congr 1; omega
                 · rw [List.take_add_one, hcb.out, Option.toList_some, List.foldl_append, ← hbe.out]; rfl
             · have hsn : (u).take s = u := List.take_of_length_le (by omega)
               have hba : b = a := by rw [hbe.out, hsn, ← ha.out]
               subst hba
               clear hsn
               go_wp2
               go_ret2
               exact ⟨by rw [hl'b.out, hval.out]; rfl, hT⟩
          · have t3 : ((r : Int) != ((u).length : Int)) = true := by simp; omega
            have t4 : ((r : Int) == ((u).length : Int)) = false := by rw [beq_eq_false_iff_ne]; omega
            have hr : Box (Dig.readExp l = none) := ⟨by rw [hsp.out, Dig.expDigits_eq _ r hr0.out, if_pos (Or.inr (by omega))]; rfl⟩
            clear hrn hcall
            go_wp2
            go_ret2
            exact ⟨by rw [hl'b.out, hr.out]; rfl, ht1⟩
        · have hsp : Box (Dig.readExp l = (Dig.expDigits t).map (fun n => (n : Int))) := ⟨by rw [e0.out, if_neg h45, if_neg h43]⟩
          have htp := pF 43 t h43
          clear h45 h43 e0
          go_enter Tryz.func91, Tryz.ntmps91
          go_wp2_with fail
          refine (hcp _).mono ?_
          rintro e w0 ⟨rfl, rfl⟩
          try go_simp
          go_wp2_with fail
          refine (htp _).mono ?_
          rintro e w0 ⟨rfl, rfl⟩
          try go_simp
          clear hcp htp i0 i1 t1 t2
          by_cases hu0 : t = []
          · have t1 : (str t).toList.isEmpty = true := by rw [bI, hu0]; rfl
            have t2 : ((str t).toList == ([] : List UInt8)) = true := by rw [bI, hu0]; rfl
            have hr : Box (Dig.readExp l = none) := ⟨by rw [hsp.out]; unfold Dig.expDigits; rw [if_pos (Or.inl hu0)]; rfl⟩
            clear hu0
            go_wp2
            go_ret2
            exact ⟨by rw [hl'b.out, hr.out]; rfl, Touch.refl _ _⟩
          have t1 : (str t).toList.isEmpty = false := by rw [bI]; simpa using hu0
          have t2 : ((str t).toList == ([] : List UInt8)) = false := by rw [bI]; simpa using hu0
          have hu1 : Box (t ≠ []) := ⟨hu0⟩
          clear hu0
          have hul : (t).length ≤ 1000000000000 := by first | assumption | (simp at hl; omega)
          obtain ⟨r, hr0⟩ : ∃ r, r = Dig.run t := ⟨_, rfl⟩
          have hcall := fun w => dN t w (by omega)
          rw [← hr0] at hcall
          have hrl : r ≤ (t).length := by rw [hr0]; exact Dig.run_le _
          replace hr0 : Box (r = Dig.run t) := ⟨hr0⟩
          go_wp2_with fail
          refine (hcall _).mono ?_
          rintro e w1 ⟨rfl, ht1⟩
          try go_simp
          have szu := aR t
          by_cases hrn : r = (t).length
          · have t3 : ((r : Int) != ((t).length : Int)) = false := by simp [hrn]
            have t4 : ((r : Int) == ((t).length : Int)) = true := by simp [hrn]
            obtain ⟨a, ha⟩ : ∃ a, a = (t).foldl Dig.expo 0 := ⟨_, rfl⟩
            have hval : Box (Dig.readExp l = some (a : Int)) := ⟨by
             rw [hsp.out, Dig.expDigits_eq _ r hr0.out, if_neg (by have := List.length_pos_iff.2 hu1.out; omega), hrn, List.take_length, ← ha]; rfl⟩
            replace ha : Box (a = (t).foldl Dig.expo 0) := ⟨ha⟩
            have hall : Box ((t).all Dig.dig = true) := ⟨by have := Dig.run_take t; rw [← hr0.out, hrn, List.take_length] at this; exact this⟩
            clear hrn
            have hcv := eT t
            go_wp2
            have hcell : ∀ j b, (t)[j]? = some b → (Lib.bytesWorld w1 5 (str t)).cell? ⟨w1.heap.size, j, none⟩ = some (.int .u8 b.toNat) := fun j b hj => by
             have := Lib.bytesWorld_cell w1 5 (str t) j (by rw [aR]; exact (List.getElem?_eq_some_iff.1 hj).1)
             rw [cM, List.getD_eq_getElem?_getD, hj] at this
             exact this
            have hT : Touch [] w (Lib.bytesWorld w1 5 (str t)) := ht1.trans (cT w1 (str t))
            obtain ⟨C, hC⟩ : ∃ C, C = grownCap w1 (t).length 0 5 := ⟨_, rfl⟩
            obtain ⟨W, hW⟩ : ∃ W, W = Lib.bytesWorld w1 5 (str t) := ⟨_, rfl⟩
            rw [← hW] at hcell hT ⊢
            rw [← hC]
            clear hW hC hcv ht1 hcall
            have hcellb : Box (∀ j b, (t)[j]? = some b → W.cell? ⟨w1.heap.size, j, none⟩ = some (.int .u8 b.toNat)) := ⟨hcell⟩
            clear hcell
            go_loop [6, 42] (fun n i => ∃ (a s : Nat), s ≤ (t).length ∧ a ≤ 1000000000 ∧ i = .int .i64 s ∧ n = .int .i64 a ∧ Box (a = ((t).take s).foldl Dig.expo 0)) (fun _ i => (t).length - (intOf i).toNat)
            case atStart => exact ⟨0, 0, by omega, by omega, rfl, rfl, ⟨rfl⟩⟩
            case round =>
             obtain ⟨b, s, hsm, hb, rfl, rfl, hbe⟩ := hrel
             by_cases hlt : s < (t).length
             · obtain ⟨c, hc⟩ : ∃ c, (t)[s]? = some c := ⟨(t)[s], by simp [hlt]⟩
               have hcd := Dig.dig_le c (Dig.all_mem _ s c hall.out hc)
               have hcl := hcellb.out s c hc
               have hcb : Box ((t)[s]? = some c) := ⟨hc⟩
               clear hc
               go_wp2
               all_goals
                go_round
                case measure => simp [intOf]; omega
                case rel =>
                 refine ⟨Dig.expo b c, s + 1, by omega, Nat.min_le_right _ _, by go_num, ?_, ⟨?_⟩⟩
                 · unfold Dig.expo
                   congr 1; omega
                 · rw [List.take_add_one, hcb.out, Option.toList_some, List.foldl_append, ← hbe.out]; rfl
             · have hsn : (t).take s = t := List.take_of_length_le (by omega)
               have hba : b = a := by rw [hbe.out, hsn, ← ha.out]
               subst hba
               clear hsn
               go_wp2
               go_ret2
               exact ⟨by rw [hl'b.out, hval.out]; rfl, hT⟩
          · have t3 : ((r : Int) != ((t).length : Int)) = true := by simp; omega
            have t4 : ((r : Int) == ((t).length : Int)) = false := by rw [beq_eq_false_iff_ne]; omega
            have hr : Box (Dig.readExp l = none) := ⟨by rw [hsp.out, Dig.expDigits_eq _ r hr0.out, if_pos (Or.inr (by omega))]; rfl⟩
            clear hrn hcall
            go_wp2
            go_ret2
            exact ⟨by rw [hl'b.out, hr.out]; rfl, ht1⟩
    · have h69 : c = 69 := by simpa [h101] using hce
      have q1 : ((c.toNat : Int) == 101) = false := by rw [hb.1]; simpa using h101
      have q2 : ((c.toNat : Int) != 101) = true := by rw [bne, q1]; rfl
      have q3 : ((c.toNat : Int) == 69) = true := by rw [hb.2]; simpa using h69
      have q4 : ((c.toNat : Int) != 69) = false := by rw [bne, q3]; rfl
      clear hb h101 hce h69
      have hl'b : Box (c :: t = l) := ⟨hl'.symm⟩
      clear hl'
      by_cases h45 : t.head? = some 45
      · obtain ⟨u, hu⟩ : ∃ u, t = 45 :: u := by cases t with | nil => simp at h45 | cons b u => exact ⟨u, by simp at h45; rw [h45]⟩
        have hsp : Box (Dig.readExp l = (Dig.expDigits u).map (fun n => -(n : Int))) := ⟨by rw [e0.out, if_pos h45, hu]; rfl⟩
        subst hu
        have hcp := iF 45 u
        clear h45 e0
        go_enter Tryz.func91, Tryz.ntmps91
        go_wp2_with fail
        refine (hcp _).mono ?_
        rintro e w0 ⟨rfl, rfl⟩
        try go_simp
        clear hcp i0 i1 t1 t2
        by_cases hu0 : u = []
        · have t1 : (str u).toList.isEmpty = true := by rw [bI, hu0]; rfl
          have t2 : ((str u).toList == ([] : List UInt8)) = true := by rw [bI, hu0]; rfl
          have hr : Box (Dig.readExp l = none) := ⟨by rw [hsp.out]; unfold Dig.expDigits; rw [if_pos (Or.inl hu0)]; rfl⟩
          clear hu0
          go_wp2
          go_ret2
          exact ⟨by rw [hl'b.out, hr.out]; rfl, Touch.refl _ _⟩
        have t1 : (str u).toList.isEmpty = false := by rw [bI]; simpa using hu0
        have t2 : ((str u).toList == ([] : List UInt8)) = false := by rw [bI]; simpa using hu0
        have hu1 : Box (u ≠ []) := ⟨hu0⟩
        clear hu0
        have hul : (u).length ≤ 1000000000000 := by first | assumption | (simp at hl; omega)
        obtain ⟨r, hr0⟩ : ∃ r, r = Dig.run u := ⟨_, rfl⟩
        have hcall := fun w => dN u w (by omega)
        rw [← hr0] at hcall
        have hrl : r ≤ (u).length := by rw [hr0]; exact Dig.run_le _
        replace hr0 : Box (r = Dig.run u) := ⟨hr0⟩
        go_wp2_with fail
        refine (hcall _).mono ?_
        rintro e w1 ⟨rfl, ht1⟩
        try go_simp
        have szu := aR u
        by_cases hrn : r = (u).length
        · have t3 : ((r : Int) != ((u).length : Int)) = false := by simp [hrn]
          have t4 : ((r : Int) == ((u).length : Int)) = true := by simp [hrn]
          obtain ⟨a, ha⟩ : ∃ a, a = (u).foldl Dig.expo 0 := ⟨_, rfl⟩
          have hval : Box (Dig.readExp l = some (-(a : Int))) := ⟨by
           rw [hsp.out, Dig.expDigits_eq _ r hr0.out, if_neg (by have := List.length_pos_iff.2 hu1.out; omega), hrn, List.take_length, ← ha]; rfl⟩
          replace ha : Box (a = (u).foldl Dig.expo 0) := ⟨ha⟩
          have hall : Box ((u).all Dig.dig = true) := ⟨by have := Dig.run_take u; rw [← hr0.out, hrn, List.take_length] at this; exact this⟩
          clear hrn
          have hcv := eT u
          go_wp2
          have hcell : ∀ j b, (u)[j]? = some b → (Lib.bytesWorld w1 5 (str u)).cell? ⟨w1.heap.size, j, none⟩ = some (.int .u8 b.toNat) := fun j b hj => by
           have := Lib.bytesWorld_cell w1 5 (str u) j (by rw [aR]; exact (List.getElem?_eq_some_iff.1 hj).1)
           rw [cM, List.getD_eq_getElem?_getD, hj] at this
           exact this
          have hT : Touch [] w (Lib.bytesWorld w1 5 (str u)) := ht1.trans (cT w1 (str u))
          obtain ⟨C, hC⟩ : ∃ C, C = grownCap w1 (u).length 0 5 := ⟨_, rfl⟩
          obtain ⟨W, hW⟩ : ∃ W, W = Lib.bytesWorld w1 5 (str u) := ⟨_, rfl⟩
          rw [← hW] at hcell hT ⊢
          rw [← hC]
          clear hW hC hcv ht1 hcall
          have hcellb : Box (∀ j b, (u)[j]? = some b → W.cell? ⟨w1.heap.size, j, none⟩ = some (.int .u8 b.toNat)) := ⟨hcell⟩
          clear hcell
          go_loop [6, 42] (fun n i => ∃ (a s : Nat), s ≤ (u).length ∧ a ≤ 1000000000 ∧ i = .int .i64 s ∧ n = .int .i64 a ∧ Box (a = ((u).take s).foldl Dig.expo 0)) (fun _ i => (u).length - (intOf i).toNat)
          case atStart => exact ⟨0, 0, by omega, by omega, rfl, rfl, ⟨rfl⟩⟩
          case round =>
           obtain ⟨b, s, hsm, hb, rfl, rfl, hbe⟩ := hrel
           by_cases hlt : s < (u).length
           · obtain ⟨c, hc⟩ : ∃ c, (u)[s]? = some c := ⟨(u)[s], by simp [hlt]⟩
             have hcd := Dig.dig_le c (Dig.all_mem _ s c hall.out hc)
             have hcl := hcellb.out s c hc
             have hcb : Box ((u)[s]? = some c) := ⟨hc⟩
             clear hc
             go_wp2
             all_goals
              go_round
              case measure => simp [intOf]; omega
              case rel =>
               refine ⟨Dig.expo b c, s + 1, by omega, Nat.min_le_right _ _, by go_num, ?_, ⟨?_⟩⟩
               · unfold Dig.expo
                 congr 1; omega
               · rw [List.take_add_one, hcb.out, Option.toList_some, List.foldl_append, ← hbe.out]; rfl
           · have hsn : (u).take s = u := List.take_of_length_le (by omega)
             have hba : b = a := by rw [hbe.out, hsn, ← ha.out]
             subst hba
             clear hsn
             go_wp2
             go_ret2
             exact ⟨by rw [hl'b.out, hval.out]; rfl, hT⟩
        · have t3 : ((r : Int) != ((u).length : Int)) = true := by simp; omega
          have t4 : ((r : Int) == ((u).length : Int)) = false := by rw [beq_eq_false_iff_ne]; omega
          have hr : Box (Dig.readExp l = none) := ⟨by rw [hsp.out, Dig.expDigits_eq _ r hr0.out, if_pos (Or.inr (by omega))]; rfl⟩
          clear hrn hcall
          go_wp2
          go_ret2
          exact ⟨by rw [hl'b.out, hr.out]; rfl, ht1⟩
      · have hcp := kF 45 t h45
        by_cases h43 : t.head? = some 43
        · obtain ⟨u, hu⟩ : ∃ u, t = 43 :: u := by cases t with | nil => simp at h43 | cons b u => exact ⟨u, by simp at h43; rw [h43]⟩
          have hsp : Box (Dig.readExp l = (Dig.expDigits u).map (fun n => (n : Int))) := ⟨by rw [e0.out, if_neg h45, if_pos h43, hu]; rfl⟩
          subst hu
          have htp := mI 43 u
          clear h45 h43 e0
          go_enter Tryz.func91, Tryz.ntmps91
          go_wp2_with fail
          refine (hcp _).mono ?_
          rintro e w0 ⟨rfl, rfl⟩
          try go_simp
          go_wp2_with fail
          refine (htp _).mono ?_
          rintro e w0 ⟨rfl, rfl⟩
          try go_simp
          clear hcp htp i0 i1 t1 t2
          by_cases hu0 : u = []
          · have t1 : (str u).toList.isEmpty = true := by rw [bI, hu0]; rfl
            have t2 : ((str u).toList == ([] : List UInt8)) = true := by rw [bI, hu0]; rfl
            have hr : Box (Dig.readExp l = none) := ⟨by rw [hsp.out]; unfold Dig.expDigits; rw [if_pos (Or.inl hu0)]; rfl⟩
            clear hu0
            go_wp2
            go_ret2
            exact ⟨by rw [hl'b.out, hr.out]; rfl, Touch.refl _ _⟩
          have t1 : (str u).toList.isEmpty = false := by rw [bI]; simpa using hu0
          have t2 : ((str u).toList == ([] : List UInt8)) = false := by rw [bI]; simpa using hu0
          have hu1 : Box (u ≠ []) := ⟨hu0⟩
          clear hu0
          have hul : (u).length ≤ 1000000000000 := by first | assumption | (simp at hl; omega)
          obtain ⟨r, hr0⟩ : ∃ r, r = Dig.run u := ⟨_, rfl⟩
          have hcall := fun w => dN u w (by omega)
          rw [← hr0] at hcall
          have hrl : r ≤ (u).length := by rw [hr0]; exact Dig.run_le _
          replace hr0 : Box (r = Dig.run u) := ⟨hr0⟩
          go_wp2_with fail
          refine (hcall _).mono ?_
          rintro e w1 ⟨rfl, ht1⟩
          try go_simp
          have szu := aR u
          by_cases hrn : r = (u).length
          · have t3 : ((r : Int) != ((u).length : Int)) = false := by simp [hrn]
            have t4 : ((r : Int) == ((u).length : Int)) = true := by simp [hrn]
            obtain ⟨a, ha⟩ : ∃ a, a = (u).foldl Dig.expo 0 := ⟨_, rfl⟩
            have hval : Box (Dig.readExp l = some (a : Int)) := ⟨by
             rw [hsp.out, Dig.expDigits_eq _ r hr0.out, if_neg (by have := List.length_pos_iff.2 hu1.out; omega), hrn, List.take_length, ← ha]; rfl⟩
            replace ha : Box (a = (u).foldl Dig.expo 0) := ⟨ha⟩
            have hall : Box ((u).all Dig.dig = true) := ⟨by have := Dig.run_take u; rw [← hr0.out, hrn, List.take_length] at this; exact this⟩
            clear hrn
            have hcv := eT u
            go_wp2
            have hcell : ∀ j b, (u)[j]? = some b → (Lib.bytesWorld w1 5 (str u)).cell? ⟨w1.heap.size, j, none⟩ = some (.int .u8 b.toNat) := fun j b hj => by
             have := Lib.bytesWorld_cell w1 5 (str u) j (by rw [aR]; exact (List.getElem?_eq_some_iff.1 hj).1)
             rw [cM, List.getD_eq_getElem?_getD, hj] at this
             exact this
            have hT : Touch [] w (Lib.bytesWorld w1 5 (str u)) := ht1.trans (cT w1 (str u))
            obtain ⟨C, hC⟩ : ∃ C, C = grownCap w1 (u).length 0 5 := ⟨_, rfl⟩
            obtain ⟨W, hW⟩ : ∃ W, W = Lib.bytesWorld w1 5 (str u) := ⟨_, rfl⟩
            rw [← hW] at hcell hT ⊢
            rw [← hC]
            clear hW hC hcv ht1 hcall
            have hcellb : Box (∀ j b, (u)[j]? = some b → W.cell? ⟨w1.heap.size, j, none⟩ = some (.int .u8 b.toNat)) := ⟨hcell⟩
            clear hcell
            go_loop [6, 42] (fun n i => ∃ (a s : Nat), s ≤ (u).length ∧ a ≤ 1000000000 ∧ i = .int .i64 s ∧ n = .int .i64 a ∧ Box (a = ((u).take s).foldl Dig.expo 0)) (fun _ i => (u).length - (intOf i).toNat)
            case atStart => exact ⟨0, 0, by omega, by omega, rfl, rfl, ⟨rfl⟩⟩
            case round =>
             obtain ⟨b, s, hsm, hb, rfl, rfl, hbe⟩ := hrel
             by_cases hlt : s < (u).length
             · obtain ⟨c, hc⟩ : ∃ c, (u)[s]? = some c := ⟨(u)[s], by simp [hlt]⟩
               have hcd := Dig.dig_le c (Dig.all_mem _ s c hall.out hc)
               have hcl := hcellb.out s c hc
               have hcb : Box ((u)[s]? = some c) := ⟨hc⟩
               clear hc
               go_wp2
               all_goals
                go_round
                case measure => simp [intOf]; omega
                case rel =>
                 refine ⟨Dig.expo b c, s + 1, by omega, Nat.min_le_right _ _, by go_num, ?_, ⟨?_⟩⟩
                 · unfold Dig.expo
                   congr 1; omega
                 · rw [List.take_add_one, hcb.out, Option.toList_some, List.foldl_append, ← hbe.out]; rfl
             · have hsn : (u).take s = u := List.take_of_length_le (by omega)
               have hba : b = a := by rw [hbe.out, hsn, ← ha.out]
               subst hba
               clear hsn
               go_wp2
               go_ret2
               exact ⟨by rw [hl'b.out, hval.out]; rfl, hT⟩
          · have t3 : ((r : Int) != ((u).length : Int)) = true := by simp; omega
            have t4 : ((r : Int) == ((u).length : Int)) = false := by rw [beq_eq_false_iff_ne]; omega
            have hr : Box (Dig.readExp l = none) := ⟨by rw [hsp.out, Dig.expDigits_eq _ r hr0.out, if_pos (Or.inr (by omega))]; rfl⟩
            clear hrn hcall
            go_wp2
            go_ret2
            exact ⟨by rw [hl'b.out, hr.out]; rfl, ht1⟩
        · have hsp : Box (Dig.readExp l = (Dig.expDigits t).map (fun n => (n : Int))) := ⟨by rw [e0.out, if_neg h45, if_neg h43]⟩
          have htp := pF 43 t h43
          clear h45 h43 e0
          go_enter Tryz.func91, Tryz.ntmps91
          go_wp2_with fail
          refine (hcp _).mono ?_
          rintro e w0 ⟨rfl, rfl⟩
          try go_simp
          go_wp2_with fail
          refine (htp _).mono ?_
          rintro e w0 ⟨rfl, rfl⟩
          try go_simp
          clear hcp htp i0 i1 t1 t2
          by_cases hu0 : t = []
          · have t1 : (str t).toList.isEmpty = true := by rw [bI, hu0]; rfl
            have t2 : ((str t).toList == ([] : List UInt8)) = true := by rw [bI, hu0]; rfl
            have hr : Box (Dig.readExp l = none) := ⟨by rw [hsp.out]; unfold Dig.expDigits; rw [if_pos (Or.inl hu0)]; rfl⟩
            clear hu0
            go_wp2
            go_ret2
            exact ⟨by rw [hl'b.out, hr.out]; rfl, Touch.refl _ _⟩
          have t1 : (str t).toList.isEmpty = false := by rw [bI]; simpa using hu0
          have t2 : ((str t).toList == ([] : List UInt8)) = false := by rw [bI]; simpa using hu0
          have hu1 : Box (t ≠ []) := ⟨hu0⟩
          clear hu0
          have hul : (t).length ≤ 1000000000000 := by first | assumption | (simp at hl; omega)
          obtain ⟨r, hr0⟩ : ∃ r, r = Dig.run t := ⟨_, rfl⟩
          have hcall := fun w => dN t w (by omega)
          rw [← hr0] at hcall
          have hrl : r ≤ (t).length := by rw [hr0]; exact Dig.run_le _
          replace hr0 : Box (r = Dig.run t) := ⟨hr0⟩
          go_wp2_with fail
          refine (hcall _).mono ?_
          rintro e w1 ⟨rfl, ht1⟩
          try go_simp
          have szu := aR t
          by_cases hrn : r = (t).length
          · have t3 : ((r : Int) != ((t).length : Int)) = false := by simp [hrn]
            have t4 : ((r : Int) == ((t).length : Int)) = true := by simp [hrn]
            obtain ⟨a, ha⟩ : ∃ a, a = (t).foldl Dig.expo 0 := ⟨_, rfl⟩
            have hval : Box (Dig.readExp l = some (a : Int)) := ⟨by
             rw [hsp.out, Dig.expDigits_eq _ r hr0.out, if_neg (by have := List.length_pos_iff.2 hu1.out; omega), hrn, List.take_length, ← ha]; rfl⟩
            replace ha : Box (a = (t).foldl Dig.expo 0) := ⟨ha⟩
            have hall : Box ((t).all Dig.dig = true) := ⟨by have := Dig.run_take t; rw [← hr0.out, hrn, List.take_length] at this; exact this⟩
            clear hrn
            have hcv := eT t
            go_wp2
            have hcell : ∀ j b, (t)[j]? = some b → (Lib.bytesWorld w1 5 (str t)).cell? ⟨w1.heap.size, j, none⟩ = some (.int .u8 b.toNat) := fun j b hj => by
             have := Lib.bytesWorld_cell w1 5 (str t) j (by rw [aR]; exact (List.getElem?_eq_some_iff.1 hj).1)
             rw [cM, List.getD_eq_getElem?_getD, hj] at this
             exact this
            have hT : Touch [] w (Lib.bytesWorld w1 5 (str t)) := ht1.trans (cT w1 (str t))
            obtain ⟨C, hC⟩ : ∃ C, C = grownCap w1 (t).length 0 5 := ⟨_, rfl⟩
            obtain ⟨W, hW⟩ : ∃ W, W = Lib.bytesWorld w1 5 (str t) := ⟨_, rfl⟩
            rw [← hW] at hcell hT ⊢
            rw [← hC]
            clear hW hC hcv ht1 hcall
            have hcellb : Box (∀ j b, (t)[j]? = some b → W.cell? ⟨w1.heap.size, j, none⟩ = some (.int .u8 b.toNat)) := ⟨hcell⟩
            clear hcell
            go_loop [6, 42] (fun n i => ∃ (a s : Nat), s ≤ (t).length ∧ a ≤ 1000000000 ∧ i = .int .i64 s ∧ n = .int .i64 a ∧ Box (a = ((t).take s).foldl Dig.expo 0)) (fun _ i => (t).length - (intOf i).toNat)
            case atStart => exact ⟨0, 0, by omega, by omega, rfl, rfl, ⟨rfl⟩⟩
            case round =>
             obtain ⟨b, s, hsm, hb, rfl, rfl, hbe⟩ := hrel
             by_cases hlt : s < (t).length
             · obtain ⟨c, hc⟩ : ∃ c, (t)[s]? = some c := ⟨(t)[s], by simp [hlt]⟩
               have hcd := Dig.dig_le c (Dig.all_mem _ s c hall.out hc)
               have hcl := hcellb.out s c hc
               have hcb : Box ((t)[s]? = some c) := ⟨hc⟩
               clear hc
               go_wp2
               all_goals
                go_round
                case measure => simp [intOf]; omega
                case rel =>
                 refine ⟨Dig.expo b c, s + 1, by omega, Nat.min_le_right _ _, by go_num, ?_, ⟨?_⟩⟩
                 · unfold Dig.expo
                   congr 1; omega
                 · rw [List.take_add_one, hcb.out, Option.toList_some, List.foldl_append, ← hbe.out]; rfl
             · have hsn : (t).take s = t := List.take_of_length_le (by omega)
               have hba : b = a := by rw [hbe.out, hsn, ← ha.out]
               subst hba
               clear hsn
               go_wp2
               go_ret2
               exact ⟨by rw [hl'b.out, hval.out]; rfl, hT⟩
          · have t3 : ((r : Int) != ((t).length : Int)) = true := by simp; omega
            have t4 : ((r : Int) == ((t).length : Int)) = false := by rw [beq_eq_false_iff_ne]; omega
            have hr : Box (Dig.readExp l = none) := ⟨by rw [hsp.out, Dig.expDigits_eq _ r hr0.out, if_pos (Or.inr (by omega))]; rfl⟩
            clear hrn hcall
            go_wp2
            go_ret2
            exact ⟨by rw [hl'b.out, hr.out]; rfl, ht1⟩
  · have hr : Box (Dig.readExp l = none) := ⟨by rw [hl']; unfold Dig.readExp; exact if_neg hce⟩
    have q1 : ((c.toNat : Int) == 101) = false := by rw [lT]; simp at hce; simpa using hce.1
    have q2 : ((c.toNat : Int) != 101) = true := by rw [bne, q1]; rfl
    have q3 : ((c.toNat : Int) == 69) = false := by rw [oY]; simp at hce; simpa using hce.2
    have q4 : ((c.toNat : Int) != 69) = true := by rw [bne, q3]; rfl
    clear hce
    have hl'b : Box (c :: t = l) := ⟨hl'.symm⟩
    clear hl'
    go_enter Tryz.func91, Tryz.ntmps91
    go_wp2
    go_ret2
    exact ⟨by rw [hl'b.out, hr.out]; rfl, Touch.refl _ _⟩
end Go.Proofs.YthdncmagfgoboaaGreatDoor
end
section
namespace Go.Proofs.YthdncmagfgoboaaGreatDoor
open Go.RowKit Go.Shelf
set_option maxRecDepth 100000
set_option maxHeartbeats 4000000
theorem tV (l : List UInt8) (w : World) (hl : l.length ≤ 100000000000) :
 Calls Tryz.prog 57 #[.string (str l)] w fun e w' => e = .returned (.tuple #[dec ((Dig.read l).getD Dig.zero), .bool (Dig.read l).isSome]) ∧ Touch [] w w' := by
 have sz := aR l
 go_enter Tryz.func57, Tryz.ntmps57
 go_upto_region 2 with (fail)
 go_cut [0] (fun v wx => ∃ (t : List UInt8) (sg : Bool), v = .string (str t) ∧ t.length ≤ l.length ∧ Box (Dig.read l = Dig.readBody sg t) ∧ RSt w wx sg [] 0)
 case first =>
  have hst : RSt w ((w.alloc (Obj.cells #[.bool false, .string ⟨#[]⟩, .int .i64 0] 116)).alloc (Obj.cells #[.bool false, .string ⟨#[]⟩, .int .i64 0] 116)) false [] 0 := ⟨aW (aZ _ _) _, fL _ _ _, by simp, ((Touch.refl _ _).alloc _).alloc _⟩
  by_cases h1 : l.head? = some 45
  · obtain ⟨t, ht⟩ : ∃ t, l = 45 :: t := by cases l with | nil => simp at h1 | cons b u => exact ⟨u, by simp at h1; rw [h1]⟩
    have hsp : Box (Dig.read (45 :: t) = Dig.readBody true t) := ⟨rfl⟩
    subst ht
    have hcp := iF 45 t
    clear h1
    go_wp2_with fail
    refine (hcp _).mono ?_
    rintro e w0 ⟨rfl, rfl⟩
    try go_simp
    go_wp2
    go_meet
    have hst : RSt w ((w.alloc (Obj.cells #[.bool false, .string ⟨#[]⟩, .int .i64 0] 116)).alloc (Obj.cells #[.bool true, .string ⟨#[]⟩, .int .i64 0] 116)) true [] 0 := ⟨aW (aZ _ _) _, fL _ _ _, by simp, ((Touch.refl _ _).alloc _).alloc _⟩
    exact ⟨t, true, rfl, by simp, hsp, hst⟩
  · have hcp := kF 45 l h1
    have hsp : Box (Dig.read l = Dig.readBody false l) := ⟨by unfold Dig.read; rw [if_neg h1]⟩
    clear h1
    go_wp2_with fail
    refine (hcp _).mono ?_
    rintro e w0 ⟨rfl, rfl⟩
    try go_simp
    go_wp2
    go_meet
    exact ⟨l, false, rfl, by simp, hsp, hst⟩
 case rest =>
  obtain ⟨t, sg, rfl, htl, hsp, hst⟩ := hcut
  have szt := aR t
  obtain ⟨n, hn0⟩ : ∃ n, n = Dig.run t := ⟨_, rfl⟩
  have hin : n ≤ t.length := by rw [hn0]; exact Dig.run_le t
  have hn : Box (n = Dig.run (t.drop 0)) := ⟨hn0⟩
  have hcall := fun w => dN t w (by omega)
  rw [← hn0] at hcall
  clear hn0
  obtain ⟨hR, hB, hs, hT⟩ := hst
  go_wp2_with fail
  refine (hcall _).mono ?_
  rintro e w1 ⟨rfl, ht1⟩
  try go_simp
  have hst : RSt w w1 sg [] 0 := ⟨ht1.keep hR (by simp), ht1.keep hB (by simp), Nat.le_trans hs ht1.size, hT.trans ht1⟩
  clear ht1 hcall hR hB hs hT
  go_upto_region 4 with (fail)
  go_cut [29] (fun v wx => (∃ b : Bool, v = .bool b ∧ Box (b = decide (n = 0 ∨ (1 < n ∧ t[0]? = some 48)))) ∧ RSt w wx sg [] 0)
  case first =>
   by_cases h0 : n = 0
   · have t1 : ((n : Int) == 0) = true := by rw [h0]; rfl
     have hb : Box (true = decide (n = 0 ∨ (1 < n ∧ t[0]? = some 48))) := ⟨by simp [h0]⟩
     clear h0
     go_wp2
     go_meet
     exact ⟨⟨_, rfl, hb⟩, hst⟩
   have t1 : ((n : Int) == 0) = false := by rw [beq_eq_false_iff_ne]; omega
   by_cases h1 : 1 < n
   · obtain ⟨c, hc⟩ : ∃ c, t[0]? = some c := ⟨t[0]'(by omega), by simp⟩
     have i0 : ∀ w, (Instr.index 9 (.string (str t)) (.int .i64 0)).run Tryz.prog w = .ok (.int .u8 c.toNat) w := fun w => cI Tryz.underlying9 t .i64 0 c hc w
     have hb : Box (((c.toNat : Int) == 48) = decide (n = 0 ∨ (1 < n ∧ t[0]? = some 48))) := ⟨by rw [oZ, hc]; simp [h0, h1]⟩
     clear hc
     go_wp2
     go_meet
     exact ⟨⟨_, rfl, hb⟩, hst⟩
   · have hb : Box (false = decide (n = 0 ∨ (1 < n ∧ t[0]? = some 48))) := ⟨by simp [h0, h1]⟩
     go_wp2
     go_meet
     exact ⟨⟨_, rfl, hb⟩, hst⟩
  case rest =>
   obtain ⟨⟨b, rfl, hb⟩, hst⟩ := hcut
   cases hbb : b with
   | true =>
    replace hsp : Box (Dig.read l = none) := ⟨by rw [hsp.out]; exact Dig.readBody_bad sg t 0 n hn.out (by have := hb.out; rw [hbb] at this; simpa using this.symm)⟩
    subst hbb
    clear hb
    obtain ⟨hR, hB, hs, hT⟩ := hst
    have ⟨c0,c1,c2⟩ := cs3 hB
    have ⟨f0,f1,f2⟩ := fs3 hB
    have ⟨r0,r1,r2⟩ := cs3 hR
    have ⟨g0,g1,g2⟩ := fs3 hR
    have hz0 : w.heap.size < (wc).heap.size := by omega
    have hz1 : w.heap.size + 1 < (wc).heap.size := by omega
    try simp at c0 c1 c2 r0 r1 r2
    go_wp2
    exact bodyPost_ret (v := .tuple #[dec Dig.zero, .bool false]) (by simp [results, Tryz.results57, go_sem, Dig.zero, str, r0, r1, r2]) rfl ⟨by rw [hsp.out]; rfl, ((hT.setCell (by simp) _).setCell (by simp) _).setCell (by simp) _⟩
   | false =>
    have hok : Box (¬ (n = 0 ∨ (1 < n ∧ t[0]? = some 48))) := ⟨by have := hb.out; rw [hbb] at this; simpa using this⟩
    subst hbb
    clear hb
    have i1 : ∀ w, (Instr.slice 9 (.string (str t)) none (some (.int .i64 (n : Int))) none).run Tryz.prog w = .ok (.string (str (t.take n))) w := fun w => nT Tryz.underlying9 t .i64 n hin w
    have i2 : ∀ w, (Instr.slice 9 (.string (str t)) (some (.int .i64 (n : Int))) none none).run Tryz.prog w = .ok (.string (str (t.drop n))) w := fun w => iA Tryz.underlying9 t .i64 n hin w
    go_upto_region 6 with (fail)
    go_cut [0] (fun v wx => v = .string (str (t.drop n)) ∧ RSt w wx sg (t.take n) 0)
    case first =>
     obtain ⟨hR, hB, hs, hT⟩ := hst
     have ⟨c0,c1,c2⟩ := cs3 hB
     have ⟨f0,f1,f2⟩ := fs3 hB
     have ⟨r0,r1,r2⟩ := cs3 hR
     have ⟨g0,g1,g2⟩ := fs3 hR
     have hz0 : w.heap.size < (wc).heap.size := by omega
     have hz1 : w.heap.size + 1 < (wc).heap.size := by omega
     try simp at c0 c1 c2 r0 r1 r2
     go_region
     all_goals
      go_wp2_with fail
      go_meet
      exact ⟨rfl, aU hR (by simp) _, aF hB 1 _, by simpa using hs, (hT.setCell (by simp) _).drew⟩
    case rest =>
     obtain ⟨rfl, hst⟩ := hcut
     obtain ⟨D0, hD0⟩ : ∃ D0, D0 = t.take n := ⟨_, rfl⟩
     obtain ⟨t2, ht2⟩ : ∃ t2, t2 = t.drop n := ⟨_, rfl⟩
     rw [← ht2]
     rw [← hD0] at hst
     have hD0l : D0.length ≤ l.length := by rw [hD0]; simp; omega
     have ht2l : t2.length ≤ l.length := by rw [ht2]; simp; omega
     have hpt : Box (t2.head? = t[n]?) := ⟨by rw [ht2, Dig.head_drop]⟩
     replace hD0 : Box (D0 = t.take n) := ⟨hD0⟩
     replace ht2 : Box (t2 = t.drop n) := ⟨ht2⟩
     clear i1 i2
     go_upto_region 7 with (fail)
     go_cut [6, 7] (fun v6 v7 wx => ∃ (t' : List UInt8) (b : Bool), v6 = .string (str t') ∧ v7 = .bool b ∧ t'.length ≤ l.length ∧ Box (b = decide (t2.head? = some 46) ∧ (b = false ∨ t2 = 46 :: t')) ∧ RSt w wx sg D0 0)
     case first =>
      by_cases h1 : t2.head? = some 46
      · obtain ⟨t', ht'⟩ : ∃ t', t2 = 46 :: t' := by cases t2 with | nil => simp at h1 | cons b u => exact ⟨u, by simp at h1; rw [h1]⟩
        have hbx : Box (true = decide (t2.head? = some 46) ∧ (true = false ∨ t2 = 46 :: t')) := ⟨by simp [h1], Or.inr ht'⟩
        have hl' : t'.length ≤ l.length := by rw [ht'] at ht2l; simp at ht2l; omega
        have hcp : ∀ w, Calls Tryz.prog 89 #[.string (str t2), .string ⟨#[46]⟩] w fun e w' => e = .returned (.tuple #[.string (str t'), .bool true]) ∧ w = w' := by rw [ht']; exact iF 46 t'
        clear h1 ht'
        go_wp2_with fail
        refine (hcp _).mono ?_
        rintro e w0 ⟨rfl, rfl⟩
        try go_simp
        go_wp2
        go_meet
        exact ⟨t', true, rfl, rfl, hl', hbx, hst⟩
      · have hbx : Box (false = decide (t2.head? = some 46) ∧ (false = false ∨ t2 = 46 :: t2)) := ⟨by simpa using h1, Or.inl rfl⟩
        have hcp := kF 46 t2 h1
        clear h1
        go_wp2_with fail
        refine (hcp _).mono ?_
        rintro e w0 ⟨rfl, rfl⟩
        try go_simp
        go_wp2
        go_meet
        exact ⟨t2, false, rfl, rfl, ht2l, ⟨⟨hbx.out.1, Or.inl rfl⟩⟩, hst⟩
     case rest =>
      obtain ⟨t', b, rfl, rfl, hl', hbx, hst⟩ := hcut
      have szt' := aR t'
      go_upto_if 43 with (fail)
      go_cut [0] (fun v wx => ∃ (t3 D : List UInt8) (E : Int), v = .string (str t3) ∧ t3.length ≤ l.length ∧ D.length ≤ 2 * l.length ∧ -100000000000 ≤ E ∧ E ≤ 0 ∧ Box (Dig.read l = (Dig.readExp t3).map fun e => Dig.norm ⟨sg, D, E + e⟩) ∧ RSt w wx sg D E)
      case first =>
       cases hbb : b with
       | false =>
        have hp : ¬ t[0 + n]? = some 46 := by
         have h1 := hbx.out.1
         rw [hbb, hpt.out] at h1
         simpa using h1
        have hsp1 : Box (Dig.read l = (Dig.readExp t2).map fun e => Dig.norm ⟨sg, D0, 0 + e⟩) := ⟨by
         have := Dig.readBody_plain sg t 0 n hn.out hok.out hp
         rw [hsp.out, hD0.out, ht2.out]
         simpa using this⟩
        clear hp
        subst hbb
        go_wp2
        go_meet
        exact ⟨t2, D0, 0, rfl, ht2l, by omega, by omega, by omega, hsp1, hst⟩
       | true =>
        have hp : t[0 + n]? = some 46 := by
         have h1 := hbx.out.1
         rw [hbb, hpt.out] at h1
         simpa using h1.symm
        have ht2' : t2 = 46 :: t' := hbx.out.2.resolve_left (by rw [hbb]; simp)
        have htd : t.drop (0 + n + 1) = t' := by
         have := ht2.out
         rw [ht2'] at this
         rw [← List.drop_drop (i := 1) (j := 0 + n), Nat.zero_add, ← this]; rfl
        obtain ⟨m, hm0⟩ : ∃ m, m = Dig.run t' := ⟨_, rfl⟩
        have hml : m ≤ t'.length := by rw [hm0]; exact Dig.run_le _
        have hcall := fun w => dN t' w (by omega)
        rw [← hm0] at hcall
        replace hp : Box (t[0 + n]? = some 46) := ⟨hp⟩
        have hm : Box (m = Dig.run t') := ⟨hm0⟩
        replace htd : Box (t.drop (0 + n + 1) = t') := ⟨htd⟩
        subst hbb
        clear hm0 ht2' hbx
        obtain ⟨hR, hB, hs, hT⟩ := hst
        go_wp2_with fail
        refine (hcall _).mono ?_
        rintro e w1 ⟨rfl, ht1⟩
        try go_simp
        have hst : RSt w w1 sg D0 0 := ⟨ht1.keep hR (by simp), ht1.keep hB (by simp), Nat.le_trans hs ht1.size, hT.trans ht1⟩
        clear ht1 hcall hR hB hs hT
        obtain ⟨hR, hB, hs, hT⟩ := hst
        have ⟨c0,c1,c2⟩ := cs3 hB
        have ⟨f0,f1,f2⟩ := fs3 hB
        have ⟨r0,r1,r2⟩ := cs3 hR
        have ⟨g0,g1,g2⟩ := fs3 hR
        have hz0 : w.heap.size < (w1).heap.size := by omega
        have hz1 : w.heap.size + 1 < (w1).heap.size := by omega
        try simp at c0 c1 c2 r0 r1 r2
        by_cases hm0 : m = 0
        · have t1 : ((m : Int) == 0) = true := by rw [hm0]; rfl
          replace hsp : Box (Dig.read l = none) := ⟨by
           rw [hsp.out]
           exact Dig.readBody_point_bad sg t 0 n hn.out hok.out hp.out (by rw [htd.out, ← hm.out]; exact hm0)⟩
          clear hm0
          go_wp2
          exact bodyPost_ret (v := .tuple #[dec Dig.zero, .bool false]) (by simp [results, Tryz.results57, go_sem, Dig.zero, str, r0, r1, r2]) rfl ⟨by rw [hsp.out]; rfl, ((hT.setCell (by simp) _).setCell (by simp) _).setCell (by simp) _⟩
        · have t1 : ((m : Int) == 0) = false := by rw [beq_eq_false_iff_ne]; omega
          have hsp1 : Box (Dig.read l = (Dig.readExp (t'.drop m)).map fun e => Dig.norm ⟨sg, D0 ++ t'.take m, -(m : Int) + e⟩) := ⟨by
           have := Dig.readBody_point sg t 0 n m hn.out hok.out hp.out (by rw [htd.out]; exact hm.out) hm0
           rw [← List.drop_drop (i := m) (j := 0 + n + 1), htd.out] at this
           rw [hsp.out, hD0.out]
           simpa using this⟩
          clear hm0
          have i1 : ∀ w, (Instr.slice 9 (.string (str t')) none (some (.int .i64 (m : Int))) none).run Tryz.prog w = .ok (.string (str (t'.take m))) w := fun w => nT Tryz.underlying9 t' .i64 m hml w
          have i2 : ∀ w, (Instr.slice 9 (.string (str t')) (some (.int .i64 (m : Int))) none none).run Tryz.prog w = .ok (.string (str (t'.drop m))) w := fun w => iA Tryz.underlying9 t' .i64 m hml w
          have hcat := kD (P := Tryz.prog) D0 (t'.take m) (by simp; omega)
          have e1 : IntKind.i64.wrap (-(m : Int)) = -(m : Int) := IntWalk.i64_in _ (by omega)
          go_wp2
          go_region
          all_goals
           go_wp2_with fail
           go_meet
           exact ⟨t'.drop m, D0 ++ t'.take m, -(m : Int), rfl, by simp; omega, by simp; omega, by omega, by omega, hsp1, aU (aU hR (by simp) _) (by simp) _, aF (aF hB 1 _) 2 _, by simpa using hs, ((hT.setCell (by simp) _).setCell (by simp) _).drew⟩
      case rest =>
       obtain ⟨t3, D, E, rfl, ht3, hD, hE1, hE2, hsp, hst⟩ := hcut
       have hcall := fun w => wB t3 w (by omega)
       cases hx : Dig.readExp t3 with
       | none =>
        rw [hx] at hcall
        replace hcall : ∀ w, Calls Tryz.prog 91 #[.string (str t3)] w fun e w' => e = .returned (.tuple #[.int .i64 0, .bool false]) ∧ Touch [] w w' := hcall
        replace hsp : Box (Dig.read l = none) := ⟨by rw [hsp.out, hx]; rfl⟩
        clear hx
        obtain ⟨hR, hB, hs, hT⟩ := hst
        go_wp2_with fail
        refine (hcall _).mono ?_
        rintro e w1 ⟨rfl, ht1⟩
        try go_simp
        have hst : RSt w w1 sg D E := ⟨ht1.keep hR (by simp), ht1.keep hB (by simp), Nat.le_trans hs ht1.size, hT.trans ht1⟩
        clear ht1 hcall hR hB hs hT
        obtain ⟨hR, hB, hs, hT⟩ := hst
        have ⟨c0,c1,c2⟩ := cs3 hB
        have ⟨f0,f1,f2⟩ := fs3 hB
        have ⟨r0,r1,r2⟩ := cs3 hR
        have ⟨g0,g1,g2⟩ := fs3 hR
        have hz0 : w.heap.size < (w1).heap.size := by omega
        have hz1 : w.heap.size + 1 < (w1).heap.size := by omega
        try simp at c0 c1 c2 r0 r1 r2
        go_wp2
        exact bodyPost_ret (v := .tuple #[dec Dig.zero, .bool false]) (by simp [results, Tryz.results57, go_sem, Dig.zero, str, r0, r1, r2]) rfl ⟨by rw [hsp.out]; rfl, ((hT.setCell (by simp) _).setCell (by simp) _).setCell (by simp) _⟩
       | some e =>
        have heb := Dig.readExp_bound t3 e hx
        rw [hx] at hcall
        replace hcall : ∀ w, Calls Tryz.prog 91 #[.string (str t3)] w fun r w' => r = .returned (.tuple #[.int .i64 e, .bool true]) ∧ Touch [] w w' := hcall
        replace hsp : Box (Dig.read l = some (Dig.norm ⟨sg, D, E + e⟩)) := ⟨by rw [hsp.out, hx]; rfl⟩
        clear hx
        obtain ⟨hR, hB, hs, hT⟩ := hst
        go_wp2_with fail
        refine (hcall _).mono ?_
        rintro e w1 ⟨rfl, ht1⟩
        try go_simp
        have hst : RSt w w1 sg D E := ⟨ht1.keep hR (by simp), ht1.keep hB (by simp), Nat.le_trans hs ht1.size, hT.trans ht1⟩
        clear ht1 hcall hR hB hs hT
        obtain ⟨hE3, hE4⟩ := heb
        have e1 : IntKind.i64.wrap (E + e) = E + e := IntWalk.i64_in _ (by omega)
        obtain ⟨y, hy⟩ : ∃ y, y = Dig.norm ⟨sg, D, E + e⟩ := ⟨_, rfl⟩
        have hnc := fun w => mU ⟨sg, D, E + e⟩ w (show D.length ≤ _ by omega) (show E + e ≤ _ by omega) (show _ ≤ E + e by omega)
        rw [← hy] at hnc
        replace hnc : ∀ w, Calls Tryz.prog 92 #[.agg #[.bool sg, .string (str D), .int .i64 (E + e)]] w fun r w' => r = .returned (.agg #[.bool y.neg, .string (str y.d), .int .i64 y.e]) ∧ Touch [] w w' := hnc
        replace hsp : Box (Dig.read l = some y) := ⟨by rw [hsp.out, hy]⟩
        clear hy
        obtain ⟨s', d', e'⟩ := y
        obtain ⟨hR, hB, hs, hT⟩ := hst
        have ⟨c0,c1,c2⟩ := cs3 hB
        have ⟨f0,f1,f2⟩ := fs3 hB
        have ⟨r0,r1,r2⟩ := cs3 hR
        have ⟨g0,g1,g2⟩ := fs3 hR
        have hz0 : w.heap.size < (w1).heap.size := by omega
        have hz1 : w.heap.size + 1 < (w1).heap.size := by omega
        try simp at c0 c1 c2 r0 r1 r2
        go_wp2_with fail
        refine (hnc _).mono ?_
        rintro r w2 ⟨rfl, ht2⟩
        try go_simp
        have hR2 := ht2.keep (aU hR (a := ⟨w.heap.size + 1, 2, none⟩) (by simp) (.int .i64 (E + e))) (by simp)
        have hT2 := (hT.setCell (p := ⟨w.heap.size + 1, 2, none⟩) (by simp) (.int .i64 (E + e))).trans ht2
        have ⟨q0,q1,q2⟩ := cs3 hR2
        have ⟨p0,p1,p2⟩ := fs3 hR2
        have hz2 : w.heap.size < w2.heap.size := aB hR2
        try simp at q0 q1 q2
        clear c0 c1 c2 f0 f1 f2 r0 r1 r2 g0 g1 g2 hz0 hz1
        go_wp2
        exact bodyPost_ret (v := .tuple #[dec ⟨s', d', e'⟩, .bool true]) (by simp [results, Tryz.results57, go_sem, q0, q1, q2]) rfl ⟨by rw [hsp.out]; rfl, ((hT2.setCell (by simp) _).setCell (by simp) _).setCell (by simp) _⟩
end Go.Proofs.YthdncmagfgoboaaGreatDoor
end
section
namespace Go.Proofs.YthdncmagfgoboaaGreatDoor
open Go.RowKit Go.Shelf
set_option maxRecDepth 100000
set_option maxHeartbeats 4000000
theorem iB : ∀ c, Lib.repeatL [48] c = List.replicate c (48 : UInt8)
 | 0 => rfl
 | c + 1 => by
  show [48] ++ Lib.repeatL [48] c = _
  rw [iB c]; rfl
theorem vU (c : Nat) (w : World) (hc : c ≤ 1000) :
 Calls Tryz.prog 93 #[.string ⟨#[48]⟩, .int .i64 c] w fun e w' => e = .returned (.string (str (List.replicate c 48))) ∧ Touch [] w w' := by
 refine (Tryz.strings_Repeat ⟨#[48]⟩ c w (by omega) (by show 1 * c ≤ _; omega)).mono fun e w' ⟨h1, h2⟩ => ⟨?_, Touch.of_below h2 _⟩
 rw [h1]
 have e1 : Lib.repeatL [48] c = List.replicate c (48 : UInt8) := iB c
 show Ending.returned (.string ⟨(Lib.repeatL [48] c).toArray⟩) = _
 rw [e1]
 rfl
theorem wA (x : Dig.Dec) (w : World) (hl : x.d.length ≤ 1000000000000) (he : x.e ≤ 1000000000000) (he' : -1000000000000 ≤ x.e) (hd : x.d.all Dig.dig = true) :
 Calls Tryz.prog 58 #[dec x] w fun e w' => e = .returned (.tuple #[.int .i64 (Dig.int x).1, .int .i64 (Dig.int x).2]) ∧ Touch [] w w' := by
 obtain ⟨sg, d, E⟩ := x
 obtain ⟨y, hy⟩ : ∃ y, y = Dig.norm ⟨sg, d, E⟩ := ⟨_, rfl⟩
 have hyd : y.d.all Dig.dig = true := by rw [hy, Dig.norm_d]; exact Dig.core_all d hd
 have hyl : y.d.length ≤ 1000000000000 := by rw [hy, Dig.norm_d]; exact Nat.le_trans (Dig.core_le d) hl
 have hyi : Box (Dig.int ⟨sg, d, E⟩ = Dig.intN y) := ⟨by rw [hy]; rfl⟩
 have hyE : y.e ≤ 2000000000000 ∧ -2000000000000 ≤ y.e := by rw [hy]; exact Dig.norm_e_bound _ hl he he'
 have hnc := fun w => mU ⟨sg, d, E⟩ w hl he he'
 rw [← hy] at hnc
 replace hnc : ∀ w, Calls Tryz.prog 92 #[.agg #[.bool sg, .string (str d), .int .i64 E]] w fun r w' => r = .returned (.agg #[.bool y.neg, .string (str y.d), .int .i64 y.e]) ∧ Touch [] w w' := hnc
 clear hy
 obtain ⟨s', d', e'⟩ := y
 obtain ⟨hE1, hE2⟩ : e' ≤ 2000000000000 ∧ -2000000000000 ≤ e' := hyE
 replace hyd : Box (d'.all Dig.dig = true) := ⟨hyd⟩
 have hyl : d'.length ≤ 1000000000000 := hyl
 have sz := aR d'
 simp only [dec]
 go_enter Tryz.func58, Tryz.ntmps58
 go_wp2_with fail
 refine (hnc _).mono ?_
 rintro r w1 ⟨rfl, ht1⟩
 try go_simp
 have hA1 : w1.heap[w.heap.size]? = some (.cells #[.bool sg, .string (str d), .int .i64 E] 116) := ht1.keep (aZ _ _) (by simp)
 have hT1 : Touch [] w w1 := ((Touch.refl _ _).alloc _).trans ht1
 clear ht1 hnc
 have ⟨a0,a1,a2⟩ := cs3 hA1
 have ⟨b0,b1,b2⟩ := fs3 hA1
 have hz0 : w.heap.size < w1.heap.size := aB hA1
 try simp at a0 a1 a2
 by_cases h0 : e' < 0
 · have hr : Box (Dig.intN ⟨s', d', e'⟩ = (0, 7)) := ⟨by unfold Dig.intN; rw [if_pos h0]⟩
   go_wp2
   go_ret2
   exact ⟨by rw [hyi.out, hr.out]; rfl, ((hT1.setCell (by simp) _).setCell (by simp) _).setCell (by simp) _⟩
 by_cases h1 : 16 < (d'.length : Int) + e'
 · have hr : Box (Dig.intN ⟨s', d', e'⟩ = (0, 8)) := ⟨by unfold Dig.intN; rw [if_neg h0, if_pos h1]⟩
   by_cases h2 : 16 < e'
   · go_wp2
     go_ret2
     exact ⟨by rw [hyi.out, hr.out]; rfl, ((hT1.setCell (by simp) _).setCell (by simp) _).setCell (by simp) _⟩
   · go_wp2
     go_ret2
     exact ⟨by rw [hyi.out, hr.out]; rfl, ((hT1.setCell (by simp) _).setCell (by simp) _).setCell (by simp) _⟩
 have h2 : ¬ 16 < e' := by omega
 obtain ⟨E1, rfl⟩ : ∃ E1 : Nat, e' = E1 := ⟨e'.toNat, by omega⟩
 have hlE : d'.length + E1 ≤ 16 := by omega
 go_upto_region 7 with (fail)
 have hA : ((((w1.setCell ⟨w.heap.size, 0, none⟩ (.bool s')).setCell ⟨w.heap.size, 1, none⟩ (.string (str d'))).setCell ⟨w.heap.size, 2, none⟩ (.int .i64 E1))).heap[w.heap.size]? = some (.cells #[.bool s', .string (str d'), .int .i64 E1] 116) := aF (aF (aF hA1 0 _) 1 _) 2 _
 have hT : Touch [] w ((((w1.setCell ⟨w.heap.size, 0, none⟩ (.bool s')).setCell ⟨w.heap.size, 1, none⟩ (.string (str d'))).setCell ⟨w.heap.size, 2, none⟩ (.int .i64 E1))) := ((hT1.setCell (by simp) _).setCell (by simp) _).setCell (by simp) _
 obtain ⟨W, hW⟩ : ∃ W, W = ((((w1.setCell ⟨w.heap.size, 0, none⟩ (.bool s')).setCell ⟨w.heap.size, 1, none⟩ (.string (str d'))).setCell ⟨w.heap.size, 2, none⟩ (.int .i64 E1))) := ⟨_, rfl⟩
 rw [← hW] at hA hT ⊢
 clear hW a0 a1 a2 b0 b1 b2 hz0 hA1 hT1
 have hc : ∀ w', Touch [] W w' → ∀ i, w'.cell? ⟨w.heap.size, i, none⟩ = (#[.bool s', .string (str d'), .int .i64 E1] : Array Value)[i]? := fun w' h => aN (h.keep hA (by simp))
 obtain ⟨X, hX⟩ : ∃ X, X = d' ++ List.replicate E1 48 := ⟨_, rfl⟩
 have hXl : X.length = d'.length + E1 := by rw [hX]; simp
 have hcat : ∀ w, (Op.stringOp .add (str d') (str (List.replicate E1 48))).run Tryz.prog w = .ok (.string (str X)) w := by rw [hX]; exact kD d' _ (by simp; omega)
 have hcv := eT X
 have szX := aR X
 replace hX : Box (X = d' ++ List.replicate E1 48) := ⟨hX⟩
 replace hXl : Box (X.length = d'.length + E1) := ⟨hXl⟩
 have hXb : X.length ≤ 16 := by have := hXl.out; omega
 go_cut [32, 33, 34] (fun v32 v33 v34 wx => ∃ (g C : Nat), v32 = .slice (some ⟨g, 0, none⟩) X.length C ∧ v33 = .int .i64 X.length ∧ v34 = .int .i64 0 ∧ Box (∀ j b, X[j]? = some b → wx.cell? ⟨g, j, none⟩ = some (.int .u8 b.toNat)) ∧ Touch [] W wx)
 case first =>
  have hc0 := hc W (Touch.refl _ _)
  go_region_with (first
   | (go_at_call 93
      refine (vU E1 _ (by omega)).mono ?_
      rintro r w2 ⟨rfl, ht2⟩
      have hT2 : Touch [] W w2 := (by refine Touch.trans ?_ ht2; repeat (first | exact Touch.refl _ _ | apply Touch.drew))
      have hc2 := hc w2 hT2))
  all_goals
   go_wp2_with fail
   go_meet
   exact ⟨_, _, rfl, rfl, rfl, ⟨fun j b hj => by
    have := Lib.bytesWorld_cell w2 5 (str X) j (by rw [aR]; exact (List.getElem?_eq_some_iff.1 hj).1)
    rw [cM, List.getD_eq_getElem?_getD, hj] at this
    exact this⟩, hT2.trans (cT w2 (str X))⟩
 case rest =>
  obtain ⟨g, C, rfl, rfl, rfl, hcell, hT2⟩ := hcut
  have hA2 := hT2.keep hA (by simp)
  replace hT2 := hT.trans hT2
  have c0 := aN hA2 0
  simp at c0
  clear hc hA hA2 hcat hcv hT
  have hXd : Box (X.all Dig.dig = true) := ⟨by
   rw [hX.out, List.all_append, hyd.out, List.all_eq_true.2 (fun b hb => by rw [List.mem_replicate] at hb; rw [hb.2]; rfl)]; rfl⟩
  go_wp2
  go_loop [4, 34] (fun n i => ∃ k : Nat, k ≤ X.length ∧ i = .int .i64 k ∧ n = .int .i64 (Dig.val (X.take k) : Nat)) (fun _ i => X.length - (intOf i).toNat)
  case atStart => exact ⟨0, by omega, rfl, rfl⟩
  case round =>
   obtain ⟨k, hk, rfl, rfl⟩ := hrel
   obtain ⟨v, hv⟩ : ∃ v, v = Dig.val (X.take k) := ⟨_, rfl⟩
   have hvb : v < 10 ^ 16 := by
    rw [hv]
    refine Nat.lt_of_lt_of_le (Dig.val_lt _ (Dig.take_all _ k hXd.out)) (Nat.pow_le_pow_right (by omega) ?_)
    rw [List.length_take]; omega
   have hvb : v < 10000000000000000 := hvb
   rw [← hv]
   replace hv : Box (v = Dig.val (X.take k)) := ⟨hv⟩
   by_cases hlt : k < X.length
   · obtain ⟨c, hc⟩ : ∃ c, X[k]? = some c := ⟨X[k], by simp [hlt]⟩
     have hcd := Dig.dig_le c (Dig.all_mem _ k c hXd.out hc)
     have hcl := hcell.out k c hc
     have hcb : Box (X[k]? = some c) := ⟨hc⟩
     clear hc
     go_wp2
     go_round
     case measure => simp [intOf]; omega
     case rel =>
      refine ⟨k + 1, by omega, by go_num, ?_⟩
      rw [List.take_add_one, hcb.out, Option.toList_some, Dig.val_snoc, ← hv.out]
      congr 1
      omega
   · have hkd : X.take k = X := List.take_of_length_le (by omega)
     have hr : Box (Dig.intN ⟨s', d', E1⟩ = if 9007199254740991 < v then (0, 8) else (if s' = true then -(v : Int) else v, 0)) := ⟨by
      unfold Dig.intN
      rw [if_neg (show ¬ ((E1 : Int) < 0) by omega), if_neg (show ¬ (16 < (d'.length : Int) + (E1 : Int)) by omega)]
      have : Dig.val d' * 10 ^ (E1 : Int).toNat = v := by rw [hv.out, hkd, hX.out, Dig.val_back]; simp
      simp only [this]⟩
     clear hkd
     by_cases h3 : 9007199254740991 < v
     · go_wp2
       go_ret2
       exact ⟨by rw [hyi.out, hr.out, if_pos h3]; rfl, hT2⟩
     · cases hs : s' with
       | true =>
        rw [hs] at c0
        go_wp2
        go_ret2
        exact ⟨by rw [hyi.out, hr.out, if_neg h3, hs]; rfl, hT2⟩
       | false =>
        rw [hs] at c0
        go_wp2
        go_ret2
        exact ⟨by rw [hyi.out, hr.out, if_neg h3, hs]; rfl, hT2⟩
end Go.Proofs.YthdncmagfgoboaaGreatDoor
end
section
namespace Go.Proofs.YthdncmagfgoboaaGreatDoor
open Go.RowKit
def DD (a : Bool) (b : ByteArray) (c : Int) : Dig.Dec := ⟨a, b.data.toList, c⟩
def In (b : ByteArray) (c : Int) : Prop := b.size ≤ 1000000000000 ∧ c ≤ 1000000000000 ∧ -1000000000000 ≤ c
instance (b : ByteArray) (c : Int) : Decidable (In b c) := inferInstanceAs (Decidable (_ ∧ _))
theorem xJ (a : Bool) (b : ByteArray) (c : Int) : dec (DD a b c) = .agg #[.bool a, .string b, .int .i64 c] := by
 show Value.agg #[.bool a, .string (str b.data.toList), .int .i64 c] = _
 rw [← vF]
theorem xW (a : Bool) (b : ByteArray) (c : Int) : (DD a b c).d.length = b.size := by
 show b.data.toList.length = b.size
 rw [← Lib.size_eq]
end Go.Proofs.YthdncmagfgoboaaGreatDoor
end
