/- The program's layer of digits: what may be asked, runs, exponents, sizes. -/
import Derived.Test.YtcpfooceadgccaaDoorDigRA
import Derived.Test.YtcpfooceadgccaaDoorDigRX
import Derived.Test.YtcpfooceadgccaaDoorShelf
import Derived.Lib.ConvBytes
import Derived.Lib.SlBytesConst
import Derived.Outline
namespace Go.Proofs.YtcpfooceadgccaaDoor
open Go.RowKit Go.Shelf
set_option maxRecDepth 100000
set_option maxHeartbeats 4000000
set_option linter.unusedVariables false
set_option linter.unusedSimpArgs false

theorem trimL_digits (l : List UInt8) (w : World) :
    Calls Tryd.prog 47 #[.string (str l), .string ⟨#[48, 49, 50, 51, 52, 53, 54, 55, 56, 57]⟩] w fun e w' => e = .returned (.string (str (l.dropWhile Dig.dig))) ∧ Touch [] w w' := by
  have hcon := Any.strings_TrimLeft_laid Tryd.lays161 (by kernel_rfl) (str l) ⟨#[48, 49, 50, 51, 52, 53, 54, 55, 56, 57]⟩ w (by decide) (ascii_of_all (by decide))
  refine hcon.mono fun e w' ⟨h1, h2⟩ => ⟨?_, Touch.of_below h2 _⟩
  rw [h1, str_data]
  have := Dig.trimLeft_digits l
  simp only [this]
  rfl

theorem trimL_zero (l : List UInt8) (w : World) :
    Calls Tryd.prog 47 #[.string (str l), .string ⟨#[48]⟩] w fun e w' => e = .returned (.string (str (Dig.cutL l))) ∧ Touch [] w w' := by
  have hcon := Any.strings_TrimLeft_laid Tryd.lays161 (by kernel_rfl) (str l) ⟨#[48]⟩ w (by decide) (ascii_of_all (by decide))
  refine hcon.mono fun e w' ⟨h1, h2⟩ => ⟨?_, Touch.of_below h2 _⟩
  rw [h1, str_data]
  have e : Lib.trimLeftS l [48] = Dig.cutL l := by
    unfold Lib.trimLeftS Dig.cutL
    congr 1
    funext b
    simp
    rfl
  simp only [e]
  rfl

theorem trim_digits (l : List UInt8) (w : World) (hl : l.length ≤ 1000000000000000) :
    Calls Tryd.prog 41 #[.string (str l), .string ⟨#[48, 49, 50, 51, 52, 53, 54, 55, 56, 57]⟩] w fun e w' => e = .returned (.string (str (Lib.trimS l [48, 49, 50, 51, 52, 53, 54, 55, 56, 57]))) ∧ Touch [] w w' := by
  have hcon := Any.strings_Trim_laid Tryd.lays160 (by kernel_rfl) (str l) ⟨#[48, 49, 50, 51, 52, 53, 54, 55, 56, 57]⟩ w (by rw [str_size]; omega) (by decide) (ascii_of_all (by decide))
  refine hcon.mono fun e w' ⟨h1, h2⟩ => ⟨?_, Touch.of_below h2 _⟩
  rw [h1, str_data]
  rfl

theorem prun_any (l : List UInt8) (w : World) (hl : l.length ≤ 1000000000000000) :
    Calls Tryd.prog 43 #[.string (str l)] w fun e w' => e = .returned (.int .i64 (Dig.run l)) ∧ Touch [] w w' := by
  obtain ⟨r, hr⟩ : ∃ r, r = l.dropWhile Dig.dig := ⟨_, rfl⟩
  have hcall := trimL_digits l
  rw [← hr] at hcall
  have hlen : Box (l.length = Dig.run l + r.length) := ⟨by
    have := Dig.dropWhile_len Dig.dig l
    have := Dig.takeWhile_le Dig.dig l
    rw [hr]; unfold Dig.run; omega⟩
  have hrl : r.length ≤ l.length := by have := hlen.out; omega
  have sz := str_size l
  have szr := str_size r
  clear hr
  go_enter Tryd.func43, Tryd.ntmps43
  go_wp2_with fail
  refine (hcall _).mono ?_
  rintro e w1 ⟨rfl, ht1⟩
  try go_simp
  go_wp2
  go_ret
  exact ⟨by have := hlen.out; rw [show (Dig.run l : Int) = (l.length : Int) - r.length by omega]; rfl, ht1⟩

theorem pcheck_any (x : Dig.Dec) (w : World) (hl : x.d.length ≤ 1000000000000000) :
    Calls Tryd.prog 15 #[dec x] w fun e w' => e = .returned (.bool (Dig.check x)) ∧ Touch [] w w' := by
  obtain ⟨sg, d, E⟩ := x
  have hl : d.length ≤ 1000000000000000 := hl
  obtain ⟨r, hr⟩ : ∃ r, r = Lib.trimS d [48, 49, 50, 51, 52, 53, 54, 55, 56, 57] := ⟨_, rfl⟩
  have hcall := fun w => trim_digits d w hl
  rw [← hr] at hcall
  have hch : Box (d.all Dig.dig = r.isEmpty) := ⟨by rw [Bool.eq_iff_iff, List.isEmpty_iff, hr]; exact (Dig.trim_check d).symm⟩
  have tr := str_toList r
  clear hr
  go_enter Tryd.func15, Tryd.ntmps15
  go_wp2_with fail
  refine (hcall _).mono ?_
  rintro e w1 ⟨rfl, ht1⟩
  try go_simp
  have hA : w1.heap[w.heap.size]? = some (.cells #[.bool sg, .string (str d), .int .i64 E] 23) := ht1.keep (alloc_new _ _) (by simp)
  have hT : Touch [] w w1 := ((Touch.refl _ _).alloc _).trans ht1
  have c2 := cell_at hA 2
  simp at c2
  clear hA ht1 hcall
  cases hb : r with
  | cons c t =>
    have t1 : (str (c :: t)).toList.isEmpty = false := by rw [str_toList]; rfl
    have t2 : ((str (c :: t)).toList == ([] : List UInt8)) = false := by rw [str_toList]; rfl
    have hf : Box (Dig.check ⟨sg, d, E⟩ = false) := ⟨by unfold Dig.check; rw [hch.out, hb]; rfl⟩
    clear hch hb tr
    go_wp2
    go_ret
    exact ⟨by rw [hf.out]; rfl, hT⟩
  | nil =>
    have t1 : (str []).toList.isEmpty = true := by rw [str_toList]; rfl
    have t2 : ((str []).toList == ([] : List UInt8)) = true := by rw [str_toList]; rfl
    have hdb : Box (d.all Dig.dig = true) := ⟨by rw [hch.out, hb]; rfl⟩
    clear hch hb tr
    by_cases h1 : -1000000000 ≤ E
    · have t3 : decide (-1000000000 ≤ E) = true := by simpa using h1
      have hf : Box (Dig.check ⟨sg, d, E⟩ = decide (E ≤ 1000000000)) := ⟨by unfold Dig.check; rw [hdb.out, t3]; rfl⟩
      go_wp2
      go_ret
      exact ⟨by rw [hf.out]; rfl, hT⟩
    · have t3 : decide (-1000000000 ≤ E) = false := by simpa using h1
      have hf : Box (Dig.check ⟨sg, d, E⟩ = false) := ⟨by unfold Dig.check; rw [hdb.out, t3]; rfl⟩
      go_wp2
      go_ret
      exact ⟨by rw [hf.out]; rfl, hT⟩


theorem conv_to (l : List UInt8) (w : World) : (convert 9 42 (.string (str l))).run Tryd.prog w = .ok (.slice (some ⟨w.heap.size, 0, none⟩) l.length (grownCap w l.length 0 5)) (Lib.bytesWorld w 5 (str l)) :=
  Lib.run_convert_string_bytes w 9 42 5 (str l) Tryd.underlying9 Tryd.underlying42 Tryd.underlying5

theorem touch_bytes (w : World) (s : ByteArray) : Touch [] w (Lib.bytesWorld w 5 s) :=
  ⟨rfl, rfl, rfl, by rw [Lib.bytesWorld_size]; omega, fun k hk _ => Lib.bytesWorld_at_old w _ s k hk⟩

theorem pnorm_any (x : Dig.Dec) (w : World) (hl : x.d.length ≤ 1000000000000) (he : x.e ≤ 1000000000000) (he' : -1000000000000 ≤ x.e) :
    Calls Tryd.prog 24 #[dec x] w fun e w' => e = .returned (dec (Dig.norm x)) ∧ Touch [] w w' := by
  obtain ⟨sg, d, E⟩ := x
  obtain ⟨L, hL⟩ : ∃ L, L = Dig.cutL d := ⟨_, rfl⟩
  have hcall := trimL_zero d
  rw [← hL] at hcall
  have hLl : L.length ≤ d.length := by rw [hL]; exact Dig.cutL_le d
  replace hL : Box (L = Dig.cutL d) := ⟨hL⟩
  have hl : d.length ≤ 1000000000000 := hl
  have sz := str_size d
  have szL := str_size L
  simp only [dec]
  go_enter Tryd.func24, Tryd.ntmps24
  go_wp2_with fail
  refine (hcall _).mono ?_
  rintro e w1 ⟨rfl, ht1⟩
  try go_simp
  have hcv := conv_to L
  go_wp2
  have hA : (Lib.bytesWorld w1 5 (str L)).heap[w.heap.size]? = some (.cells #[.bool sg, .string (str d), .int .i64 E] 23) := by
    rw [Lib.bytesWorld_at_old _ _ _ _ (Nat.lt_of_lt_of_le (by simp; omega) ht1.size)]
    exact ht1.keep (alloc_old (alloc_new _ _) _) (by simp)
  have hR : (Lib.bytesWorld w1 5 (str L)).heap[w.heap.size + 1]? = some (.cells #[.bool false, .string ⟨#[]⟩, .int .i64 0] 23) := by
    rw [Lib.bytesWorld_at_old _ _ _ _ (Nat.lt_of_lt_of_le (by simp) ht1.size)]
    exact ht1.keep (alloc_new1 _ _ _) (by simp)
  have hcell : ∀ j b, L[j]? = some b → (Lib.bytesWorld w1 5 (str L)).cell? ⟨w1.heap.size, j, none⟩ = some (.int .u8 b.toNat) := fun j b hj => by
    have := Lib.bytesWorld_cell w1 5 (str L) j (by rw [str_size]; exact (List.getElem?_eq_some_iff.1 hj).1)
    rw [str_data, List.getD_eq_getElem?_getD, hj] at this
    exact this
  have hs : w1.heap.size < (Lib.bytesWorld w1 5 (str L)).heap.size := by rw [Lib.bytesWorld_size]; omega
  have hT : Touch [] w (Lib.bytesWorld w1 5 (str L)) := ((((Touch.refl _ _).alloc _).alloc _).trans ht1).trans (touch_bytes w1 (str L))
  have hs1 : w.heap.size + 2 ≤ w1.heap.size := by have := ht1.size; simp at this; omega
  have hcap := grownCap_ge w1 L.length 0 5
  obtain ⟨C, hC⟩ : ∃ C, C = grownCap w1 L.length 0 5 := ⟨_, rfl⟩
  obtain ⟨W, hW⟩ : ∃ W, W = Lib.bytesWorld w1 5 (str L) := ⟨_, rfl⟩
  rw [← hW] at hA hR hcell hs hT ⊢
  rw [← hC] at hcap ⊢
  clear hW hC hcv ht1 hcall
  have hL0 : Box (∃ M, Dig.cutL d = M ∧ M = L) := ⟨_, rfl, hL.out.symm⟩
  have hb1 : ¬ w1.heap.size = w.heap.size := by omega
  have hb2 : ¬ w1.heap.size = w.heap.size + 1 := by omega
  go_loop [4] (fun v => ∃ n : Nat, n ≤ L.length ∧ v = .int .i64 n ∧ Dig.cutR (L.take n) = Dig.cutR L) (fun v => (intOf v).toNat)
  case atStart => exact ⟨L.length, Nat.le_refl _, rfl, by rw [List.take_length]⟩
  case round =>
    obtain ⟨n, hn, rfl, hcut0⟩ := hrel
    have hcut : Box (Dig.cutR (L.take n) = Dig.cutR L) := ⟨hcut0⟩
    clear hcut0
    have c0 := cell_at hA 0
    have c1 := cell_at hA 1
    have c2 := cell_at hA 2
    have f0 := free_at hA 0
    have f1 := free_at hA 1
    have f2 := free_at hA 2
    have r0 := cell_at hR 0
    have r1 := cell_at hR 1
    have r2 := cell_at hR 2
    have g0 := free_at hR 0
    have g1 := free_at hR 1
    have g2 := free_at hR 2
    have hz0 : w.heap.size < W.heap.size := by omega
    have hz1 : w.heap.size + 1 < W.heap.size := by omega
    simp at c0 c1 c2 r0 r1 r2
    by_cases h0 : n = 0
    · have t0 : ¬ 0 < n := by omega
      have t2 : ((n : Int) == 0) = true := by rw [h0]; rfl
      have hn0 : Box (Dig.norm ⟨sg, d, E⟩ = Dig.zero) := ⟨by
        unfold Dig.norm
        have : Dig.core d = [] := by
          unfold Dig.core
          rw [← hL.out, ← hcut.out, h0]; rfl
        rw [if_pos this]⟩
      clear h0
      go_wp2
      exact bodyPost_ret (v := dec Dig.zero) (by simp [results, Tryd.results24, go_sem, Dig.zero, str, r0, r1, r2]) rfl ⟨by rw [hn0.out], ((hT.setCell (by simp) _).setCell (by simp) _).setCell (by simp) _⟩
    · obtain ⟨p, hp⟩ : ∃ p, n = p + 1 := ⟨n - 1, by omega⟩
      obtain ⟨c, hc⟩ : ∃ c, L[p]? = some c := ⟨L[p]'(by omega), by simp⟩
      have hcl := hcell p c hc
      subst hp
      have t0 : 0 < p + 1 := by omega
      have t2 : (((p + 1 : Nat) : Int) == 0) = false := by rw [beq_eq_false_iff_ne]; omega
      have t3 : (((p : Nat) : Int) + 1 == 0) = false := by rw [beq_eq_false_iff_ne]; omega
      have htk : Box (L.take (p + 1) = L.take p ++ [c]) := ⟨by rw [List.take_add_one, hc]; rfl⟩
      clear hc h0
      by_cases h1 : c = 48
      · have t1 : ((c.toNat : Int) == 48) = true := by rw [h1]; rfl
        have hcp : Box (Dig.cutR (L.take p) = Dig.cutR L) := ⟨by rw [← hcut.out, htk.out, h1, Dig.cutR_snoc]⟩
        clear h1
        go_wp2
        go_round
        case measure => simp [intOf]
        case rel => exact ⟨p, by omega, by go_num, hcp.out⟩
      · have t1 : ((c.toNat : Int) == 48) = false := by rw [byte_48]; simpa using h1
        have hn0 : Box (Dig.norm ⟨sg, d, E⟩ = ⟨sg, L.take (p + 1), E + ((L.length : Int) - ((p : Int) + 1))⟩) := ⟨by
          unfold Dig.norm
          have : Dig.core d = L.take (p + 1) := by
            unfold Dig.core
            rw [← hL.out, ← hcut.out, htk.out, Dig.cutR_of_last _ _ h1]
          rw [if_neg (by rw [this, htk.out]; simp), this, ← hL.out, List.length_take, Nat.min_eq_left hn]
          rfl⟩
        clear h1
        have hback : ∀ X, (convert 42 9 (.slice (some ⟨w1.heap.size, 0, none⟩) (p + 1) (p + 1))).run Tryd.prog (W.setCell ⟨w.heap.size, 2, none⟩ X) = .ok (.string (str (L.take (p + 1)))) (W.setCell ⟨w.heap.size, 2, none⟩ X) := fun X => by
          have hlen : (L.take (p + 1)).length = p + 1 := by rw [List.length_take, Nat.min_eq_left hn]
          have := run_convert_bytes_back (P := Tryd.prog) (W.setCell ⟨w.heap.size, 2, none⟩ X) 42 9 5 ⟨w1.heap.size, 0, none⟩ (p + 1) (L.take (p + 1)) Tryd.underlying42 Tryd.underlying5 Tryd.underlying9 (fun k hk => by
            rw [hlen] at hk
            have e1 : (⟨w1.heap.size, 0, none⟩ : Addr).add k = ⟨w1.heap.size, k, none⟩ := by unfold Addr.add; split <;> simp_all
            have e2 : (W.setCell ⟨w.heap.size, 2, none⟩ X).cell? ⟨w1.heap.size, k, none⟩ = W.cell? ⟨w1.heap.size, k, none⟩ := World.cell?_of_block (Below.heap_setCell _ _ _ _ (fun e => hb1 e))
            rw [e1, e2, List.getElem_take]
            exact hcell k _ (by rw [List.getElem?_eq_getElem]))
          rw [hlen] at this
          exact this
        have hcapn : p + 1 ≤ C := by omega
        go_wp2
        exact bodyPost_ret (v := dec ⟨sg, L.take (p + 1), E + ((L.length : Int) - ((p : Int) + 1))⟩) (by simp [results, Tryd.results24, go_sem, r0, r1, r2]) rfl ⟨by rw [hn0.out], ((((hT.setCell (by simp) _).setCell (by simp) _).setCell (by simp) _).setCell (by simp) _).setCell (by simp) _⟩

theorem pwhole_any (x : Dig.Dec) (w : World) (hl : x.d.length ≤ 1000000000000) (he : x.e ≤ 1000000000000) (he' : -1000000000000 ≤ x.e) :
    Calls Tryd.prog 28 #[dec x] w fun e w' => e = .returned (.bool (Dig.whole x)) ∧ Touch [] w w' := by
  go_enter Tryd.func28, Tryd.ntmps28
  go_wp2_with fail
  refine (pnorm_any x _ hl he he').mono ?_
  rintro e w1 ⟨rfl, ht1⟩
  try go_simp
  have hf := run_field2
  simp only [dec]
  go_wp2
  go_ret
  exact ⟨rfl, ((Touch.refl _ _).alloc _).trans ht1⟩

/-- the program's size: which of two is greater, whatever the sign -/
def Dig.psize (a b : Dig.Dec) : Int := if a.d = [] ∨ b.d = [] then (min a.d.length 1 : Nat) - (min b.d.length 1 : Nat) else Dig.size a b

theorem isEmpty_str (l : List UInt8) : (str l).toList = l := str_toList l

theorem psize_any (a b : Dig.Dec) (w : World) (hl : a.d.length ≤ 1000000000000) (he : a.e ≤ 2000000000000) (he' : -2000000000000 ≤ a.e) (hlb : b.d.length ≤ 1000000000000) (heb : b.e ≤ 2000000000000) (heb' : -2000000000000 ≤ b.e) :
    Calls Tryd.prog 48 #[dec a, dec b] w fun e w' => e = .returned (.int .i64 (Dig.psize a b)) ∧ Touch [] w w' := by
  obtain ⟨sa, da, ea⟩ := a
  obtain ⟨sb, db, eb⟩ := b
  have hl : da.length ≤ 1000000000000 := hl
  have hlb : db.length ≤ 1000000000000 := hlb
  have he : ea ≤ 2000000000000 := he
  have he' : -2000000000000 ≤ ea := he'
  have heb : eb ≤ 2000000000000 := heb
  have heb' : -2000000000000 ≤ eb := heb'
  have sza := str_size da
  have szb := str_size db
  have ta := str_toList da
  have tb := str_toList db
  have hT : Touch [] w ((w.alloc (Obj.cells #[.bool sa, .string (str da), .int .i64 ea] 23)).alloc (Obj.cells #[.bool sb, .string (str db), .int .i64 eb] 23)) := ((Touch.refl _ _).alloc _).alloc _
  simp only [dec]
  have hcmp : ∀ w, Calls Tryd.prog 74 #[.string (str da), .string (str db)] w fun e w' => e = .returned (.int .i64 (Lib.compareBytes da db)) ∧ w' = w := fun w => by
    have := Tryd.strings_Compare (str da) (str db) w
    rw [str_data, str_data] at this
    exact this
  by_cases h1 : da = []
  · have t1 : (str da).toList.isEmpty = true := by rw [str_toList, h1]; rfl
    have t2 : ((str da).toList == ([] : List UInt8)) = true := by rw [str_toList, h1]; rfl
    have hr : Box (Dig.psize ⟨sa, da, ea⟩ ⟨sb, db, eb⟩ = (min da.length 1 : Nat) - (min db.length 1 : Nat)) := ⟨by unfold Dig.psize; rw [if_pos (Or.inl h1)]⟩
    have m1 : min (da.length : Int) 1 = 0 := by rw [h1]; rfl
    have m2 : (min da.length 1 : Nat) = 0 := by rw [h1]; rfl
    rw [m2] at hr
    clear h1 ta tb hcmp m2
    by_cases h2 : db.length = 0
    · have m3 : min (db.length : Int) 1 = 0 := by rw [h2]; rfl
      have hr2 : Box (Dig.psize ⟨sa, da, ea⟩ ⟨sb, db, eb⟩ = 0) := ⟨by rw [hr.out, h2]; rfl⟩
      clear hr h2
      go_enter Tryd.func48, Tryd.ntmps48
      go_wp2
      go_quiet (fail)
      go_wp2
      go_ret
      exact ⟨by rw [hr2.out]; rfl, hT.drewN _⟩
    · have m3 : min (db.length : Int) 1 = 1 := by omega
      have hr2 : Box (Dig.psize ⟨sa, da, ea⟩ ⟨sb, db, eb⟩ = -1) := ⟨by rw [hr.out, show min db.length 1 = 1 by omega]; rfl⟩
      clear hr h2
      go_enter Tryd.func48, Tryd.ntmps48
      go_wp2
      go_quiet (fail)
      go_wp2
      go_ret
      exact ⟨by rw [hr2.out]; rfl, hT.drewN _⟩
  have t1 : (str da).toList.isEmpty = false := by rw [str_toList]; simpa using h1
  have t2 : ((str da).toList == ([] : List UInt8)) = false := by rw [str_toList]; simpa using h1
  by_cases h2 : db = []
  · have t3 : (str db).toList.isEmpty = true := by rw [str_toList, h2]; rfl
    have t4 : ((str db).toList == ([] : List UInt8)) = true := by rw [str_toList, h2]; rfl
    have hr2 : Box (Dig.psize ⟨sa, da, ea⟩ ⟨sb, db, eb⟩ = 1) := ⟨by
      have h0 : 0 < da.length := List.length_pos_iff.2 h1
      unfold Dig.psize; rw [if_pos (Or.inr h2)]
      show ((min da.length 1 : Nat) : Int) - (min db.length 1 : Nat) = 1
      rw [h2, show min da.length 1 = 1 by omega]; rfl⟩
    have m1 : min (da.length : Int) 1 = 1 := by have h0 : 0 < da.length := List.length_pos_iff.2 h1; omega
    have m3 : min (db.length : Int) 1 = 0 := by rw [h2]; rfl
    clear h1 h2 ta tb hcmp
    go_enter Tryd.func48, Tryd.ntmps48
    go_wp2
    go_quiet (fail)
    go_wp2
    go_ret
    exact ⟨by rw [hr2.out]; rfl, hT.drewN _⟩
  have t3 : (str db).toList.isEmpty = false := by rw [str_toList]; simpa using h2
  have t4 : ((str db).toList == ([] : List UInt8)) = false := by rw [str_toList]; simpa using h2
  have hr : Box (Dig.psize ⟨sa, da, ea⟩ ⟨sb, db, eb⟩ = Dig.size ⟨sa, da, ea⟩ ⟨sb, db, eb⟩) := ⟨by unfold Dig.psize; rw [if_neg (by rintro (h | h); exact h1 h; exact h2 h)]⟩
  clear h1 h2 ta tb
  by_cases h1 : (da.length : Int) + ea < db.length + eb
  · have e1 : Box (Dig.size ⟨sa, da, ea⟩ ⟨sb, db, eb⟩ = -1) := ⟨by unfold Dig.size; rw [if_pos h1]⟩
    go_enter Tryd.func48, Tryd.ntmps48
    go_wp2
    go_quiet (fail)
    go_wp2
    go_ret
    exact ⟨by rw [hr.out, e1.out]; rfl, hT.drewN _⟩
  by_cases h2 : (db.length : Int) + eb < da.length + ea
  · have e1 : Box (Dig.size ⟨sa, da, ea⟩ ⟨sb, db, eb⟩ = 1) := ⟨by unfold Dig.size; rw [if_neg h1, if_pos h2]⟩
    go_enter Tryd.func48, Tryd.ntmps48
    go_wp2
    go_quiet (fail)
    go_wp2
    go_ret
    exact ⟨by rw [hr.out, e1.out]; rfl, hT.drewN _⟩
  have e1 : Box (Dig.size ⟨sa, da, ea⟩ ⟨sb, db, eb⟩ = Lib.compareBytes da db) := ⟨by unfold Dig.size; rw [if_neg h1, if_neg h2]⟩
  go_enter Tryd.func48, Tryd.ntmps48
  go_wp2
  go_quiet (fail)
  go_wp2_with fail
  refine (hcmp _).mono ?_
  rintro e w1 ⟨rfl, rfl⟩
  try go_simp
  go_wp2
  go_ret
  exact ⟨by rw [hr.out, e1.out]; rfl, hT.drewN _⟩
end Go.Proofs.YtcpfooceadgccaaDoor
