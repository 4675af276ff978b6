/- The program's layer of digits: exponents. -/
import Derived.Test.YtcpfooceadgccaaDoorDigP
import Derived.Outline
namespace Go.Proofs.YtcpfooceadgccaaDoor
open Go.RowKit Go.Shelf
set_option maxRecDepth 100000
set_option maxHeartbeats 4000000
set_option linter.unusedVariables false
set_option linter.unusedSimpArgs false

theorem cutp_yes (c : UInt8) (u : List UInt8) (w : World) :
    Calls Tryd.prog 42 #[.string (str (c :: u)), .string ⟨#[c]⟩] w fun e w' => e = .returned (.tuple #[.string (str u), .bool true]) ∧ w = w' := by
  have := (Tryd.strings_CutPrefix (str (c :: u)) ⟨#[c]⟩ w).mono (fun _ _ h => And.intro h.1 h.2.symm)
  simp only [str_data] at this
  have e1 : Lib.trimPrefix (c :: u) [c] = u := by simp [Lib.trimPrefix, Lib.hasPrefix]
  have e2 : Lib.hasPrefix (c :: u) [c] = true := by simp [Lib.hasPrefix]
  rw [e1, e2] at this
  exact this
theorem cutp_no (c : UInt8) (t : List UInt8) (ht : t.head? ≠ some c) (w : World) :
    Calls Tryd.prog 42 #[.string (str t), .string ⟨#[c]⟩] w fun e w' => e = .returned (.tuple #[.string (str t), .bool false]) ∧ w = w' := by
  have := (Tryd.strings_CutPrefix (str t) ⟨#[c]⟩ w).mono (fun _ _ h => And.intro h.1 h.2.symm)
  simp only [str_data] at this
  have e2 : Lib.hasPrefix t [c] = false := by
    cases t with
    | nil => rfl
    | cons b t =>
      have : (c == b) = false := by simpa using fun e => ht (by rw [e]; rfl)
      show (c == b && List.isPrefixOf [] t) = false
      rw [this]; rfl
  have e1 : Lib.trimPrefix t [c] = t := by unfold Lib.trimPrefix; rw [e2]; rfl
  rw [e1, e2] at this
  exact this
theorem trimp_yes (c : UInt8) (u : List UInt8) (w : World) :
    Calls Tryd.prog 67 #[.string (str (c :: u)), .string ⟨#[c]⟩] w fun e w' => e = .returned (.string (str u)) ∧ w = w' := by
  have := (Tryd.strings_TrimPrefix (str (c :: u)) ⟨#[c]⟩ w).mono (fun _ _ h => And.intro h.1 h.2.symm)
  simp only [str_data] at this
  have e1 : Lib.trimPrefix (c :: u) [c] = u := by simp [Lib.trimPrefix, Lib.hasPrefix]
  rw [e1] at this
  exact this
theorem trimp_no (c : UInt8) (t : List UInt8) (ht : t.head? ≠ some c) (w : World) :
    Calls Tryd.prog 67 #[.string (str t), .string ⟨#[c]⟩] w fun e w' => e = .returned (.string (str t)) ∧ w = w' := by
  have := (Tryd.strings_TrimPrefix (str t) ⟨#[c]⟩ w).mono (fun _ _ h => And.intro h.1 h.2.symm)
  simp only [str_data] at this
  have e2 : Lib.hasPrefix t [c] = false := by
    cases t with
    | nil => rfl
    | cons b t =>
      have : (c == b) = false := by simpa using fun e => ht (by rw [e]; rfl)
      show (c == b && List.isPrefixOf [] t) = false
      rw [this]; rfl
  have e1 : Lib.trimPrefix t [c] = t := by unfold Lib.trimPrefix; rw [e2]; rfl
  rw [e1] at this
  exact this



theorem pexp_any (l : List UInt8) (w : World) (hl : l.length ≤ 1000000000000) :
    Calls Tryd.prog 44 #[.string (str l)] w fun e w' => e = .returned (.tuple #[.int .i64 ((Dig.readExp l).getD 0), .bool (Dig.readExp l).isSome]) ∧ Touch [] w w' := by
  obtain ⟨L, hL⟩ : ∃ L, L = l := ⟨_, rfl⟩
  cases hl0 : l with
  | nil =>
    rw [← hL] at hl0
    have t1 : (str []).toList.isEmpty = true := by rw [str_toList]; rfl
    have t2 : ((str []).toList == ([] : List UInt8)) = true := by rw [str_toList]; rfl
    clear hl0 hL hl
    go_enter Tryd.func44, Tryd.ntmps44
    go_wp2
    go_ret2
    exact ⟨rfl, Touch.refl _ _⟩
  | cons c t =>
    rw [hl0] at hl
    have t1 : (str (c :: t)).toList.isEmpty = false := by rw [str_toList]; rfl
    have t2 : ((str (c :: t)).toList == ([] : List UInt8)) = false := by rw [str_toList]; rfl
    have i0 : ∀ w, (Instr.index 9 (.string (str (c :: t))) (.int .i64 0)).run Tryd.prog w = .ok (.int .u8 c.toNat) w := fun w => run_ix Tryd.underlying9 (c :: t) .i64 0 c rfl w
    have i1 : ∀ w, (Instr.slice 9 (.string (str (c :: t))) (some (.int .i64 1)) none none).run Tryd.prog w = .ok (.string (str t)) w := fun w => by
      have := run_from Tryd.underlying9 (c :: t) .i64 1 (by simp) w
      exact this
    clear hl0 hL
    obtain ⟨l, hl'⟩ : ∃ l, l = c :: t := ⟨_, rfl⟩
    by_cases hce : (c == 101 || c == 69) = true
    · have e0 : Box (Dig.readExp l = if t.head? = some 45 then (Dig.expDigits t.tail).map (fun n => -(n : Int)) else if t.head? = some 43 then (Dig.expDigits t.tail).map (fun n => (n : Int)) else (Dig.expDigits t).map (fun n => (n : Int))) := ⟨by rw [hl']; unfold Dig.readExp; exact if_pos hce⟩
      have hb : ((c.toNat : Int) == 101) = decide (c = 101) ∧ ((c.toNat : Int) == 69) = decide (c = 69) := ⟨byte_101 c, byte_69 c⟩
      by_cases h101 : c = 101
      · have q1 : ((c.toNat : Int) == 101) = true := by rw [hb.1]; simpa using h101
        have q2 : ((c.toNat : Int) != 101) = false := by rw [bne, q1]; rfl
        clear hb h101 hce
        have hl'b : Box (c :: t = l) := ⟨hl'.symm⟩
        clear hl'
        by_cases h45 : t.head? = some 45
        · obtain ⟨u, hu⟩ : ∃ u, t = 45 :: u := by cases t with | nil => simp at h45 | cons b u => exact ⟨u, by simp at h45; rw [h45]⟩
          have hsp : Box (Dig.readExp l = (Dig.expDigits u).map (fun n => -(n : Int))) := ⟨by rw [e0.out, if_pos h45, hu]; rfl⟩
          subst hu
          have hcp := cutp_yes 45 u
          clear h45 e0
          go_enter Tryd.func44, Tryd.ntmps44
          go_wp2_with fail
          refine (hcp _).mono ?_
          rintro e w0 ⟨rfl, rfl⟩
          try go_simp
          clear hcp i0 i1 t1 t2
          by_cases hu0 : u = []
          · have t1 : (str u).toList.isEmpty = true := by rw [str_toList, hu0]; rfl
            have t2 : ((str u).toList == ([] : List UInt8)) = true := by rw [str_toList, hu0]; rfl
            have hr : Box (Dig.readExp l = none) := ⟨by rw [hsp.out]; unfold Dig.expDigits; rw [if_pos (Or.inl hu0)]; rfl⟩
            clear hu0
            go_wp2
            go_ret2
            exact ⟨by rw [hl'b.out, hr.out]; rfl, Touch.refl _ _⟩
          have t1 : (str u).toList.isEmpty = false := by rw [str_toList]; simpa using hu0
          have t2 : ((str u).toList == ([] : List UInt8)) = false := by rw [str_toList]; simpa using hu0
          have hu1 : Box (u ≠ []) := ⟨hu0⟩
          clear hu0
          have hul : (u).length ≤ 1000000000000 := by first | assumption | (simp at hl; omega)
          obtain ⟨r, hr0⟩ : ∃ r, r = Dig.run u := ⟨_, rfl⟩
          have hcall := fun w => prun_any u w (by omega)
          rw [← hr0] at hcall
          have hrl : r ≤ (u).length := by rw [hr0]; exact Dig.run_le _
          replace hr0 : Box (r = Dig.run u) := ⟨hr0⟩
          go_wp2_with fail
          refine (hcall _).mono ?_
          rintro e w1 ⟨rfl, ht1⟩
          try go_simp
          have szu := str_size u
          by_cases hrn : r = (u).length
          · have t3 : ((r : Int) != ((u).length : Int)) = false := by simp [hrn]
            have t4 : ((r : Int) == ((u).length : Int)) = true := by simp [hrn]
            obtain ⟨a, ha⟩ : ∃ a, a = (u).foldl Dig.expo 0 := ⟨_, rfl⟩
            have hval : Box (Dig.readExp l = some (-(a : Int))) := ⟨by
              rw [hsp.out, Dig.expDigits_eq _ r hr0.out, if_neg (by have := List.length_pos_iff.2 hu1.out; omega), hrn, List.take_length, ← ha]; rfl⟩
            replace ha : Box (a = (u).foldl Dig.expo 0) := ⟨ha⟩
            have hall : Box ((u).all Dig.dig = true) := ⟨by have := Dig.run_take u; rw [← hr0.out, hrn, List.take_length] at this; exact this⟩
            clear hrn
            have hcv := conv_to u
            go_wp2
            have hcell : ∀ j b, (u)[j]? = some b → (Lib.bytesWorld w1 5 (str u)).cell? ⟨w1.heap.size, j, none⟩ = some (.int .u8 b.toNat) := fun j b hj => by
              have := Lib.bytesWorld_cell w1 5 (str u) j (by rw [str_size]; exact (List.getElem?_eq_some_iff.1 hj).1)
              rw [str_data, List.getD_eq_getElem?_getD, hj] at this
              exact this
            have hT : Touch [] w (Lib.bytesWorld w1 5 (str u)) := ht1.trans (touch_bytes w1 (str u))
            obtain ⟨C, hC⟩ : ∃ C, C = grownCap w1 (u).length 0 5 := ⟨_, rfl⟩
            obtain ⟨W, hW⟩ : ∃ W, W = Lib.bytesWorld w1 5 (str u) := ⟨_, rfl⟩
            rw [← hW] at hcell hT ⊢
            rw [← hC]
            clear hW hC hcv ht1 hcall
            have hcellb : Box (∀ j b, (u)[j]? = some b → W.cell? ⟨w1.heap.size, j, none⟩ = some (.int .u8 b.toNat)) := ⟨hcell⟩
            clear hcell
            go_loop [6, 42] (fun n i => ∃ (a s : Nat), s ≤ (u).length ∧ a ≤ 1000000000 ∧ i = .int .i64 s ∧ n = .int .i64 a ∧ Box (a = ((u).take s).foldl Dig.expo 0)) (fun _ i => (u).length - (intOf i).toNat)
            case atStart => exact ⟨0, 0, by omega, by omega, rfl, rfl, ⟨rfl⟩⟩
            case round =>
              obtain ⟨b, s, hsm, hb, rfl, rfl, hbe⟩ := hrel
              by_cases hlt : s < (u).length
              · obtain ⟨c, hc⟩ : ∃ c, (u)[s]? = some c := ⟨(u)[s], by simp [hlt]⟩
                have hcd := Dig.dig_le c (Dig.all_mem _ s c hall.out hc)
                have hcl := hcellb.out s c hc
                have hcb : Box ((u)[s]? = some c) := ⟨hc⟩
                clear hc
                go_wp2
                all_goals
                  go_round
                  case measure => simp [intOf]; omega
                  case rel =>
                    refine ⟨Dig.expo b c, s + 1, by omega, Nat.min_le_right _ _, by go_num, ?_, ⟨?_⟩⟩
                    · unfold Dig.expo
                      congr 1; omega
                    · rw [List.take_add_one, hcb.out, Option.toList_some, List.foldl_append, ← hbe.out]; rfl
              · have hsn : (u).take s = u := List.take_of_length_le (by omega)
                have hba : b = a := by rw [hbe.out, hsn, ← ha.out]
                subst hba
                clear hsn
                go_wp2
                go_ret2
                exact ⟨by rw [hl'b.out, hval.out]; rfl, hT⟩
          · have t3 : ((r : Int) != ((u).length : Int)) = true := by simp; omega
            have t4 : ((r : Int) == ((u).length : Int)) = false := by rw [beq_eq_false_iff_ne]; omega
            have hr : Box (Dig.readExp l = none) := ⟨by rw [hsp.out, Dig.expDigits_eq _ r hr0.out, if_pos (Or.inr (by omega))]; rfl⟩
            clear hrn hcall
            go_wp2
            go_ret2
            exact ⟨by rw [hl'b.out, hr.out]; rfl, ht1⟩
        · have hcp := cutp_no 45 t h45
          by_cases h43 : t.head? = some 43
          · obtain ⟨u, hu⟩ : ∃ u, t = 43 :: u := by cases t with | nil => simp at h43 | cons b u => exact ⟨u, by simp at h43; rw [h43]⟩
            have hsp : Box (Dig.readExp l = (Dig.expDigits u).map (fun n => (n : Int))) := ⟨by rw [e0.out, if_neg h45, if_pos h43, hu]; rfl⟩
            subst hu
            have htp := trimp_yes 43 u
            clear h45 h43 e0
            go_enter Tryd.func44, Tryd.ntmps44
            go_wp2_with fail
            refine (hcp _).mono ?_
            rintro e w0 ⟨rfl, rfl⟩
            try go_simp
            go_wp2_with fail
            refine (htp _).mono ?_
            rintro e w0 ⟨rfl, rfl⟩
            try go_simp
            clear hcp htp i0 i1 t1 t2
            by_cases hu0 : u = []
            · have t1 : (str u).toList.isEmpty = true := by rw [str_toList, hu0]; rfl
              have t2 : ((str u).toList == ([] : List UInt8)) = true := by rw [str_toList, hu0]; rfl
              have hr : Box (Dig.readExp l = none) := ⟨by rw [hsp.out]; unfold Dig.expDigits; rw [if_pos (Or.inl hu0)]; rfl⟩
              clear hu0
              go_wp2
              go_ret2
              exact ⟨by rw [hl'b.out, hr.out]; rfl, Touch.refl _ _⟩
            have t1 : (str u).toList.isEmpty = false := by rw [str_toList]; simpa using hu0
            have t2 : ((str u).toList == ([] : List UInt8)) = false := by rw [str_toList]; simpa using hu0
            have hu1 : Box (u ≠ []) := ⟨hu0⟩
            clear hu0
            have hul : (u).length ≤ 1000000000000 := by first | assumption | (simp at hl; omega)
            obtain ⟨r, hr0⟩ : ∃ r, r = Dig.run u := ⟨_, rfl⟩
            have hcall := fun w => prun_any u w (by omega)
            rw [← hr0] at hcall
            have hrl : r ≤ (u).length := by rw [hr0]; exact Dig.run_le _
            replace hr0 : Box (r = Dig.run u) := ⟨hr0⟩
            go_wp2_with fail
            refine (hcall _).mono ?_
            rintro e w1 ⟨rfl, ht1⟩
            try go_simp
            have szu := str_size u
            by_cases hrn : r = (u).length
            · have t3 : ((r : Int) != ((u).length : Int)) = false := by simp [hrn]
              have t4 : ((r : Int) == ((u).length : Int)) = true := by simp [hrn]
              obtain ⟨a, ha⟩ : ∃ a, a = (u).foldl Dig.expo 0 := ⟨_, rfl⟩
              have hval : Box (Dig.readExp l = some (a : Int)) := ⟨by
                rw [hsp.out, Dig.expDigits_eq _ r hr0.out, if_neg (by have := List.length_pos_iff.2 hu1.out; omega), hrn, List.take_length, ← ha]; rfl⟩
              replace ha : Box (a = (u).foldl Dig.expo 0) := ⟨ha⟩
              have hall : Box ((u).all Dig.dig = true) := ⟨by have := Dig.run_take u; rw [← hr0.out, hrn, List.take_length] at this; exact this⟩
              clear hrn
              have hcv := conv_to u
              go_wp2
              have hcell : ∀ j b, (u)[j]? = some b → (Lib.bytesWorld w1 5 (str u)).cell? ⟨w1.heap.size, j, none⟩ = some (.int .u8 b.toNat) := fun j b hj => by
                have := Lib.bytesWorld_cell w1 5 (str u) j (by rw [str_size]; exact (List.getElem?_eq_some_iff.1 hj).1)
                rw [str_data, List.getD_eq_getElem?_getD, hj] at this
                exact this
              have hT : Touch [] w (Lib.bytesWorld w1 5 (str u)) := ht1.trans (touch_bytes w1 (str u))
              obtain ⟨C, hC⟩ : ∃ C, C = grownCap w1 (u).length 0 5 := ⟨_, rfl⟩
              obtain ⟨W, hW⟩ : ∃ W, W = Lib.bytesWorld w1 5 (str u) := ⟨_, rfl⟩
              rw [← hW] at hcell hT ⊢
              rw [← hC]
              clear hW hC hcv ht1 hcall
              have hcellb : Box (∀ j b, (u)[j]? = some b → W.cell? ⟨w1.heap.size, j, none⟩ = some (.int .u8 b.toNat)) := ⟨hcell⟩
              clear hcell
              go_loop [6, 42] (fun n i => ∃ (a s : Nat), s ≤ (u).length ∧ a ≤ 1000000000 ∧ i = .int .i64 s ∧ n = .int .i64 a ∧ Box (a = ((u).take s).foldl Dig.expo 0)) (fun _ i => (u).length - (intOf i).toNat)
              case atStart => exact ⟨0, 0, by omega, by omega, rfl, rfl, ⟨rfl⟩⟩
              case round =>
                obtain ⟨b, s, hsm, hb, rfl, rfl, hbe⟩ := hrel
                by_cases hlt : s < (u).length
                · obtain ⟨c, hc⟩ : ∃ c, (u)[s]? = some c := ⟨(u)[s], by simp [hlt]⟩
                  have hcd := Dig.dig_le c (Dig.all_mem _ s c hall.out hc)
                  have hcl := hcellb.out s c hc
                  have hcb : Box ((u)[s]? = some c) := ⟨hc⟩
                  clear hc
                  go_wp2
                  all_goals
                    go_round
                    case measure => simp [intOf]; omega
                    case rel =>
                      refine ⟨Dig.expo b c, s + 1, by omega, Nat.min_le_right _ _, by go_num, ?_, ⟨?_⟩⟩
                      · unfold Dig.expo
                        congr 1; omega
                      · rw [List.take_add_one, hcb.out, Option.toList_some, List.foldl_append, ← hbe.out]; rfl
                · have hsn : (u).take s = u := List.take_of_length_le (by omega)
                  have hba : b = a := by rw [hbe.out, hsn, ← ha.out]
                  subst hba
                  clear hsn
                  go_wp2
                  go_ret2
                  exact ⟨by rw [hl'b.out, hval.out]; rfl, hT⟩
            · have t3 : ((r : Int) != ((u).length : Int)) = true := by simp; omega
              have t4 : ((r : Int) == ((u).length : Int)) = false := by rw [beq_eq_false_iff_ne]; omega
              have hr : Box (Dig.readExp l = none) := ⟨by rw [hsp.out, Dig.expDigits_eq _ r hr0.out, if_pos (Or.inr (by omega))]; rfl⟩
              clear hrn hcall
              go_wp2
              go_ret2
              exact ⟨by rw [hl'b.out, hr.out]; rfl, ht1⟩
          · have hsp : Box (Dig.readExp l = (Dig.expDigits t).map (fun n => (n : Int))) := ⟨by rw [e0.out, if_neg h45, if_neg h43]⟩
            have htp := trimp_no 43 t h43
            clear h45 h43 e0
            go_enter Tryd.func44, Tryd.ntmps44
            go_wp2_with fail
            refine (hcp _).mono ?_
            rintro e w0 ⟨rfl, rfl⟩
            try go_simp
            go_wp2_with fail
            refine (htp _).mono ?_
            rintro e w0 ⟨rfl, rfl⟩
            try go_simp
            clear hcp htp i0 i1 t1 t2
            by_cases hu0 : t = []
            · have t1 : (str t).toList.isEmpty = true := by rw [str_toList, hu0]; rfl
              have t2 : ((str t).toList == ([] : List UInt8)) = true := by rw [str_toList, hu0]; rfl
              have hr : Box (Dig.readExp l = none) := ⟨by rw [hsp.out]; unfold Dig.expDigits; rw [if_pos (Or.inl hu0)]; rfl⟩
              clear hu0
              go_wp2
              go_ret2
              exact ⟨by rw [hl'b.out, hr.out]; rfl, Touch.refl _ _⟩
            have t1 : (str t).toList.isEmpty = false := by rw [str_toList]; simpa using hu0
            have t2 : ((str t).toList == ([] : List UInt8)) = false := by rw [str_toList]; simpa using hu0
            have hu1 : Box (t ≠ []) := ⟨hu0⟩
            clear hu0
            have hul : (t).length ≤ 1000000000000 := by first | assumption | (simp at hl; omega)
            obtain ⟨r, hr0⟩ : ∃ r, r = Dig.run t := ⟨_, rfl⟩
            have hcall := fun w => prun_any t w (by omega)
            rw [← hr0] at hcall
            have hrl : r ≤ (t).length := by rw [hr0]; exact Dig.run_le _
            replace hr0 : Box (r = Dig.run t) := ⟨hr0⟩
            go_wp2_with fail
            refine (hcall _).mono ?_
            rintro e w1 ⟨rfl, ht1⟩
            try go_simp
            have szu := str_size t
            by_cases hrn : r = (t).length
            · have t3 : ((r : Int) != ((t).length : Int)) = false := by simp [hrn]
              have t4 : ((r : Int) == ((t).length : Int)) = true := by simp [hrn]
              obtain ⟨a, ha⟩ : ∃ a, a = (t).foldl Dig.expo 0 := ⟨_, rfl⟩
              have hval : Box (Dig.readExp l = some (a : Int)) := ⟨by
                rw [hsp.out, Dig.expDigits_eq _ r hr0.out, if_neg (by have := List.length_pos_iff.2 hu1.out; omega), hrn, List.take_length, ← ha]; rfl⟩
              replace ha : Box (a = (t).foldl Dig.expo 0) := ⟨ha⟩
              have hall : Box ((t).all Dig.dig = true) := ⟨by have := Dig.run_take t; rw [← hr0.out, hrn, List.take_length] at this; exact this⟩
              clear hrn
              have hcv := conv_to t
              go_wp2
              have hcell : ∀ j b, (t)[j]? = some b → (Lib.bytesWorld w1 5 (str t)).cell? ⟨w1.heap.size, j, none⟩ = some (.int .u8 b.toNat) := fun j b hj => by
                have := Lib.bytesWorld_cell w1 5 (str t) j (by rw [str_size]; exact (List.getElem?_eq_some_iff.1 hj).1)
                rw [str_data, List.getD_eq_getElem?_getD, hj] at this
                exact this
              have hT : Touch [] w (Lib.bytesWorld w1 5 (str t)) := ht1.trans (touch_bytes w1 (str t))
              obtain ⟨C, hC⟩ : ∃ C, C = grownCap w1 (t).length 0 5 := ⟨_, rfl⟩
              obtain ⟨W, hW⟩ : ∃ W, W = Lib.bytesWorld w1 5 (str t) := ⟨_, rfl⟩
              rw [← hW] at hcell hT ⊢
              rw [← hC]
              clear hW hC hcv ht1 hcall
              have hcellb : Box (∀ j b, (t)[j]? = some b → W.cell? ⟨w1.heap.size, j, none⟩ = some (.int .u8 b.toNat)) := ⟨hcell⟩
              clear hcell
              go_loop [6, 42] (fun n i => ∃ (a s : Nat), s ≤ (t).length ∧ a ≤ 1000000000 ∧ i = .int .i64 s ∧ n = .int .i64 a ∧ Box (a = ((t).take s).foldl Dig.expo 0)) (fun _ i => (t).length - (intOf i).toNat)
              case atStart => exact ⟨0, 0, by omega, by omega, rfl, rfl, ⟨rfl⟩⟩
              case round =>
                obtain ⟨b, s, hsm, hb, rfl, rfl, hbe⟩ := hrel
                by_cases hlt : s < (t).length
                · obtain ⟨c, hc⟩ : ∃ c, (t)[s]? = some c := ⟨(t)[s], by simp [hlt]⟩
                  have hcd := Dig.dig_le c (Dig.all_mem _ s c hall.out hc)
                  have hcl := hcellb.out s c hc
                  have hcb : Box ((t)[s]? = some c) := ⟨hc⟩
                  clear hc
                  go_wp2
                  all_goals
                    go_round
                    case measure => simp [intOf]; omega
                    case rel =>
                      refine ⟨Dig.expo b c, s + 1, by omega, Nat.min_le_right _ _, by go_num, ?_, ⟨?_⟩⟩
                      · unfold Dig.expo
                        congr 1; omega
                      · rw [List.take_add_one, hcb.out, Option.toList_some, List.foldl_append, ← hbe.out]; rfl
                · have hsn : (t).take s = t := List.take_of_length_le (by omega)
                  have hba : b = a := by rw [hbe.out, hsn, ← ha.out]
                  subst hba
                  clear hsn
                  go_wp2
                  go_ret2
                  exact ⟨by rw [hl'b.out, hval.out]; rfl, hT⟩
            · have t3 : ((r : Int) != ((t).length : Int)) = true := by simp; omega
              have t4 : ((r : Int) == ((t).length : Int)) = false := by rw [beq_eq_false_iff_ne]; omega
              have hr : Box (Dig.readExp l = none) := ⟨by rw [hsp.out, Dig.expDigits_eq _ r hr0.out, if_pos (Or.inr (by omega))]; rfl⟩
              clear hrn hcall
              go_wp2
              go_ret2
              exact ⟨by rw [hl'b.out, hr.out]; rfl, ht1⟩
      · have h69 : c = 69 := by simpa [h101] using hce
        have q1 : ((c.toNat : Int) == 101) = false := by rw [hb.1]; simpa using h101
        have q2 : ((c.toNat : Int) != 101) = true := by rw [bne, q1]; rfl
        have q3 : ((c.toNat : Int) == 69) = true := by rw [hb.2]; simpa using h69
        have q4 : ((c.toNat : Int) != 69) = false := by rw [bne, q3]; rfl
        clear hb h101 hce h69
        have hl'b : Box (c :: t = l) := ⟨hl'.symm⟩
        clear hl'
        by_cases h45 : t.head? = some 45
        · obtain ⟨u, hu⟩ : ∃ u, t = 45 :: u := by cases t with | nil => simp at h45 | cons b u => exact ⟨u, by simp at h45; rw [h45]⟩
          have hsp : Box (Dig.readExp l = (Dig.expDigits u).map (fun n => -(n : Int))) := ⟨by rw [e0.out, if_pos h45, hu]; rfl⟩
          subst hu
          have hcp := cutp_yes 45 u
          clear h45 e0
          go_enter Tryd.func44, Tryd.ntmps44
          go_wp2_with fail
          refine (hcp _).mono ?_
          rintro e w0 ⟨rfl, rfl⟩
          try go_simp
          clear hcp i0 i1 t1 t2
          by_cases hu0 : u = []
          · have t1 : (str u).toList.isEmpty = true := by rw [str_toList, hu0]; rfl
            have t2 : ((str u).toList == ([] : List UInt8)) = true := by rw [str_toList, hu0]; rfl
            have hr : Box (Dig.readExp l = none) := ⟨by rw [hsp.out]; unfold Dig.expDigits; rw [if_pos (Or.inl hu0)]; rfl⟩
            clear hu0
            go_wp2
            go_ret2
            exact ⟨by rw [hl'b.out, hr.out]; rfl, Touch.refl _ _⟩
          have t1 : (str u).toList.isEmpty = false := by rw [str_toList]; simpa using hu0
          have t2 : ((str u).toList == ([] : List UInt8)) = false := by rw [str_toList]; simpa using hu0
          have hu1 : Box (u ≠ []) := ⟨hu0⟩
          clear hu0
          have hul : (u).length ≤ 1000000000000 := by first | assumption | (simp at hl; omega)
          obtain ⟨r, hr0⟩ : ∃ r, r = Dig.run u := ⟨_, rfl⟩
          have hcall := fun w => prun_any u w (by omega)
          rw [← hr0] at hcall
          have hrl : r ≤ (u).length := by rw [hr0]; exact Dig.run_le _
          replace hr0 : Box (r = Dig.run u) := ⟨hr0⟩
          go_wp2_with fail
          refine (hcall _).mono ?_
          rintro e w1 ⟨rfl, ht1⟩
          try go_simp
          have szu := str_size u
          by_cases hrn : r = (u).length
          · have t3 : ((r : Int) != ((u).length : Int)) = false := by simp [hrn]
            have t4 : ((r : Int) == ((u).length : Int)) = true := by simp [hrn]
            obtain ⟨a, ha⟩ : ∃ a, a = (u).foldl Dig.expo 0 := ⟨_, rfl⟩
            have hval : Box (Dig.readExp l = some (-(a : Int))) := ⟨by
              rw [hsp.out, Dig.expDigits_eq _ r hr0.out, if_neg (by have := List.length_pos_iff.2 hu1.out; omega), hrn, List.take_length, ← ha]; rfl⟩
            replace ha : Box (a = (u).foldl Dig.expo 0) := ⟨ha⟩
            have hall : Box ((u).all Dig.dig = true) := ⟨by have := Dig.run_take u; rw [← hr0.out, hrn, List.take_length] at this; exact this⟩
            clear hrn
            have hcv := conv_to u
            go_wp2
            have hcell : ∀ j b, (u)[j]? = some b → (Lib.bytesWorld w1 5 (str u)).cell? ⟨w1.heap.size, j, none⟩ = some (.int .u8 b.toNat) := fun j b hj => by
              have := Lib.bytesWorld_cell w1 5 (str u) j (by rw [str_size]; exact (List.getElem?_eq_some_iff.1 hj).1)
              rw [str_data, List.getD_eq_getElem?_getD, hj] at this
              exact this
            have hT : Touch [] w (Lib.bytesWorld w1 5 (str u)) := ht1.trans (touch_bytes w1 (str u))
            obtain ⟨C, hC⟩ : ∃ C, C = grownCap w1 (u).length 0 5 := ⟨_, rfl⟩
            obtain ⟨W, hW⟩ : ∃ W, W = Lib.bytesWorld w1 5 (str u) := ⟨_, rfl⟩
            rw [← hW] at hcell hT ⊢
            rw [← hC]
            clear hW hC hcv ht1 hcall
            have hcellb : Box (∀ j b, (u)[j]? = some b → W.cell? ⟨w1.heap.size, j, none⟩ = some (.int .u8 b.toNat)) := ⟨hcell⟩
            clear hcell
            go_loop [6, 42] (fun n i => ∃ (a s : Nat), s ≤ (u).length ∧ a ≤ 1000000000 ∧ i = .int .i64 s ∧ n = .int .i64 a ∧ Box (a = ((u).take s).foldl Dig.expo 0)) (fun _ i => (u).length - (intOf i).toNat)
            case atStart => exact ⟨0, 0, by omega, by omega, rfl, rfl, ⟨rfl⟩⟩
            case round =>
              obtain ⟨b, s, hsm, hb, rfl, rfl, hbe⟩ := hrel
              by_cases hlt : s < (u).length
              · obtain ⟨c, hc⟩ : ∃ c, (u)[s]? = some c := ⟨(u)[s], by simp [hlt]⟩
                have hcd := Dig.dig_le c (Dig.all_mem _ s c hall.out hc)
                have hcl := hcellb.out s c hc
                have hcb : Box ((u)[s]? = some c) := ⟨hc⟩
                clear hc
                go_wp2
                all_goals
                  go_round
                  case measure => simp [intOf]; omega
                  case rel =>
                    refine ⟨Dig.expo b c, s + 1, by omega, Nat.min_le_right _ _, by go_num, ?_, ⟨?_⟩⟩
                    · unfold Dig.expo
                      congr 1; omega
                    · rw [List.take_add_one, hcb.out, Option.toList_some, List.foldl_append, ← hbe.out]; rfl
              · have hsn : (u).take s = u := List.take_of_length_le (by omega)
                have hba : b = a := by rw [hbe.out, hsn, ← ha.out]
                subst hba
                clear hsn
                go_wp2
                go_ret2
                exact ⟨by rw [hl'b.out, hval.out]; rfl, hT⟩
          · have t3 : ((r : Int) != ((u).length : Int)) = true := by simp; omega
            have t4 : ((r : Int) == ((u).length : Int)) = false := by rw [beq_eq_false_iff_ne]; omega
            have hr : Box (Dig.readExp l = none) := ⟨by rw [hsp.out, Dig.expDigits_eq _ r hr0.out, if_pos (Or.inr (by omega))]; rfl⟩
            clear hrn hcall
            go_wp2
            go_ret2
            exact ⟨by rw [hl'b.out, hr.out]; rfl, ht1⟩
        · have hcp := cutp_no 45 t h45
          by_cases h43 : t.head? = some 43
          · obtain ⟨u, hu⟩ : ∃ u, t = 43 :: u := by cases t with | nil => simp at h43 | cons b u => exact ⟨u, by simp at h43; rw [h43]⟩
            have hsp : Box (Dig.readExp l = (Dig.expDigits u).map (fun n => (n : Int))) := ⟨by rw [e0.out, if_neg h45, if_pos h43, hu]; rfl⟩
            subst hu
            have htp := trimp_yes 43 u
            clear h45 h43 e0
            go_enter Tryd.func44, Tryd.ntmps44
            go_wp2_with fail
            refine (hcp _).mono ?_
            rintro e w0 ⟨rfl, rfl⟩
            try go_simp
            go_wp2_with fail
            refine (htp _).mono ?_
            rintro e w0 ⟨rfl, rfl⟩
            try go_simp
            clear hcp htp i0 i1 t1 t2
            by_cases hu0 : u = []
            · have t1 : (str u).toList.isEmpty = true := by rw [str_toList, hu0]; rfl
              have t2 : ((str u).toList == ([] : List UInt8)) = true := by rw [str_toList, hu0]; rfl
              have hr : Box (Dig.readExp l = none) := ⟨by rw [hsp.out]; unfold Dig.expDigits; rw [if_pos (Or.inl hu0)]; rfl⟩
              clear hu0
              go_wp2
              go_ret2
              exact ⟨by rw [hl'b.out, hr.out]; rfl, Touch.refl _ _⟩
            have t1 : (str u).toList.isEmpty = false := by rw [str_toList]; simpa using hu0
            have t2 : ((str u).toList == ([] : List UInt8)) = false := by rw [str_toList]; simpa using hu0
            have hu1 : Box (u ≠ []) := ⟨hu0⟩
            clear hu0
            have hul : (u).length ≤ 1000000000000 := by first | assumption | (simp at hl; omega)
            obtain ⟨r, hr0⟩ : ∃ r, r = Dig.run u := ⟨_, rfl⟩
            have hcall := fun w => prun_any u w (by omega)
            rw [← hr0] at hcall
            have hrl : r ≤ (u).length := by rw [hr0]; exact Dig.run_le _
            replace hr0 : Box (r = Dig.run u) := ⟨hr0⟩
            go_wp2_with fail
            refine (hcall _).mono ?_
            rintro e w1 ⟨rfl, ht1⟩
            try go_simp
            have szu := str_size u
            by_cases hrn : r = (u).length
            · have t3 : ((r : Int) != ((u).length : Int)) = false := by simp [hrn]
              have t4 : ((r : Int) == ((u).length : Int)) = true := by simp [hrn]
              obtain ⟨a, ha⟩ : ∃ a, a = (u).foldl Dig.expo 0 := ⟨_, rfl⟩
              have hval : Box (Dig.readExp l = some (a : Int)) := ⟨by
                rw [hsp.out, Dig.expDigits_eq _ r hr0.out, if_neg (by have := List.length_pos_iff.2 hu1.out; omega), hrn, List.take_length, ← ha]; rfl⟩
              replace ha : Box (a = (u).foldl Dig.expo 0) := ⟨ha⟩
              have hall : Box ((u).all Dig.dig = true) := ⟨by have := Dig.run_take u; rw [← hr0.out, hrn, List.take_length] at this; exact this⟩
              clear hrn
              have hcv := conv_to u
              go_wp2
              have hcell : ∀ j b, (u)[j]? = some b → (Lib.bytesWorld w1 5 (str u)).cell? ⟨w1.heap.size, j, none⟩ = some (.int .u8 b.toNat) := fun j b hj => by
                have := Lib.bytesWorld_cell w1 5 (str u) j (by rw [str_size]; exact (List.getElem?_eq_some_iff.1 hj).1)
                rw [str_data, List.getD_eq_getElem?_getD, hj] at this
                exact this
              have hT : Touch [] w (Lib.bytesWorld w1 5 (str u)) := ht1.trans (touch_bytes w1 (str u))
              obtain ⟨C, hC⟩ : ∃ C, C = grownCap w1 (u).length 0 5 := ⟨_, rfl⟩
              obtain ⟨W, hW⟩ : ∃ W, W = Lib.bytesWorld w1 5 (str u) := ⟨_, rfl⟩
              rw [← hW] at hcell hT ⊢
              rw [← hC]
              clear hW hC hcv ht1 hcall
              have hcellb : Box (∀ j b, (u)[j]? = some b → W.cell? ⟨w1.heap.size, j, none⟩ = some (.int .u8 b.toNat)) := ⟨hcell⟩
              clear hcell
              go_loop [6, 42] (fun n i => ∃ (a s : Nat), s ≤ (u).length ∧ a ≤ 1000000000 ∧ i = .int .i64 s ∧ n = .int .i64 a ∧ Box (a = ((u).take s).foldl Dig.expo 0)) (fun _ i => (u).length - (intOf i).toNat)
              case atStart => exact ⟨0, 0, by omega, by omega, rfl, rfl, ⟨rfl⟩⟩
              case round =>
                obtain ⟨b, s, hsm, hb, rfl, rfl, hbe⟩ := hrel
                by_cases hlt : s < (u).length
                · obtain ⟨c, hc⟩ : ∃ c, (u)[s]? = some c := ⟨(u)[s], by simp [hlt]⟩
                  have hcd := Dig.dig_le c (Dig.all_mem _ s c hall.out hc)
                  have hcl := hcellb.out s c hc
                  have hcb : Box ((u)[s]? = some c) := ⟨hc⟩
                  clear hc
                  go_wp2
                  all_goals
                    go_round
                    case measure => simp [intOf]; omega
                    case rel =>
                      refine ⟨Dig.expo b c, s + 1, by omega, Nat.min_le_right _ _, by go_num, ?_, ⟨?_⟩⟩
                      · unfold Dig.expo
                        congr 1; omega
                      · rw [List.take_add_one, hcb.out, Option.toList_some, List.foldl_append, ← hbe.out]; rfl
                · have hsn : (u).take s = u := List.take_of_length_le (by omega)
                  have hba : b = a := by rw [hbe.out, hsn, ← ha.out]
                  subst hba
                  clear hsn
                  go_wp2
                  go_ret2
                  exact ⟨by rw [hl'b.out, hval.out]; rfl, hT⟩
            · have t3 : ((r : Int) != ((u).length : Int)) = true := by simp; omega
              have t4 : ((r : Int) == ((u).length : Int)) = false := by rw [beq_eq_false_iff_ne]; omega
              have hr : Box (Dig.readExp l = none) := ⟨by rw [hsp.out, Dig.expDigits_eq _ r hr0.out, if_pos (Or.inr (by omega))]; rfl⟩
              clear hrn hcall
              go_wp2
              go_ret2
              exact ⟨by rw [hl'b.out, hr.out]; rfl, ht1⟩
          · have hsp : Box (Dig.readExp l = (Dig.expDigits t).map (fun n => (n : Int))) := ⟨by rw [e0.out, if_neg h45, if_neg h43]⟩
            have htp := trimp_no 43 t h43
            clear h45 h43 e0
            go_enter Tryd.func44, Tryd.ntmps44
            go_wp2_with fail
            refine (hcp _).mono ?_
            rintro e w0 ⟨rfl, rfl⟩
            try go_simp
            go_wp2_with fail
            refine (htp _).mono ?_
            rintro e w0 ⟨rfl, rfl⟩
            try go_simp
            clear hcp htp i0 i1 t1 t2
            by_cases hu0 : t = []
            · have t1 : (str t).toList.isEmpty = true := by rw [str_toList, hu0]; rfl
              have t2 : ((str t).toList == ([] : List UInt8)) = true := by rw [str_toList, hu0]; rfl
              have hr : Box (Dig.readExp l = none) := ⟨by rw [hsp.out]; unfold Dig.expDigits; rw [if_pos (Or.inl hu0)]; rfl⟩
              clear hu0
              go_wp2
              go_ret2
              exact ⟨by rw [hl'b.out, hr.out]; rfl, Touch.refl _ _⟩
            have t1 : (str t).toList.isEmpty = false := by rw [str_toList]; simpa using hu0
            have t2 : ((str t).toList == ([] : List UInt8)) = false := by rw [str_toList]; simpa using hu0
            have hu1 : Box (t ≠ []) := ⟨hu0⟩
            clear hu0
            have hul : (t).length ≤ 1000000000000 := by first | assumption | (simp at hl; omega)
            obtain ⟨r, hr0⟩ : ∃ r, r = Dig.run t := ⟨_, rfl⟩
            have hcall := fun w => prun_any t w (by omega)
            rw [← hr0] at hcall
            have hrl : r ≤ (t).length := by rw [hr0]; exact Dig.run_le _
            replace hr0 : Box (r = Dig.run t) := ⟨hr0⟩
            go_wp2_with fail
            refine (hcall _).mono ?_
            rintro e w1 ⟨rfl, ht1⟩
            try go_simp
            have szu := str_size t
            by_cases hrn : r = (t).length
            · have t3 : ((r : Int) != ((t).length : Int)) = false := by simp [hrn]
              have t4 : ((r : Int) == ((t).length : Int)) = true := by simp [hrn]
              obtain ⟨a, ha⟩ : ∃ a, a = (t).foldl Dig.expo 0 := ⟨_, rfl⟩
              have hval : Box (Dig.readExp l = some (a : Int)) := ⟨by
                rw [hsp.out, Dig.expDigits_eq _ r hr0.out, if_neg (by have := List.length_pos_iff.2 hu1.out; omega), hrn, List.take_length, ← ha]; rfl⟩
              replace ha : Box (a = (t).foldl Dig.expo 0) := ⟨ha⟩
              have hall : Box ((t).all Dig.dig = true) := ⟨by have := Dig.run_take t; rw [← hr0.out, hrn, List.take_length] at this; exact this⟩
              clear hrn
              have hcv := conv_to t
              go_wp2
              have hcell : ∀ j b, (t)[j]? = some b → (Lib.bytesWorld w1 5 (str t)).cell? ⟨w1.heap.size, j, none⟩ = some (.int .u8 b.toNat) := fun j b hj => by
                have := Lib.bytesWorld_cell w1 5 (str t) j (by rw [str_size]; exact (List.getElem?_eq_some_iff.1 hj).1)
                rw [str_data, List.getD_eq_getElem?_getD, hj] at this
                exact this
              have hT : Touch [] w (Lib.bytesWorld w1 5 (str t)) := ht1.trans (touch_bytes w1 (str t))
              obtain ⟨C, hC⟩ : ∃ C, C = grownCap w1 (t).length 0 5 := ⟨_, rfl⟩
              obtain ⟨W, hW⟩ : ∃ W, W = Lib.bytesWorld w1 5 (str t) := ⟨_, rfl⟩
              rw [← hW] at hcell hT ⊢
              rw [← hC]
              clear hW hC hcv ht1 hcall
              have hcellb : Box (∀ j b, (t)[j]? = some b → W.cell? ⟨w1.heap.size, j, none⟩ = some (.int .u8 b.toNat)) := ⟨hcell⟩
              clear hcell
              go_loop [6, 42] (fun n i => ∃ (a s : Nat), s ≤ (t).length ∧ a ≤ 1000000000 ∧ i = .int .i64 s ∧ n = .int .i64 a ∧ Box (a = ((t).take s).foldl Dig.expo 0)) (fun _ i => (t).length - (intOf i).toNat)
              case atStart => exact ⟨0, 0, by omega, by omega, rfl, rfl, ⟨rfl⟩⟩
              case round =>
                obtain ⟨b, s, hsm, hb, rfl, rfl, hbe⟩ := hrel
                by_cases hlt : s < (t).length
                · obtain ⟨c, hc⟩ : ∃ c, (t)[s]? = some c := ⟨(t)[s], by simp [hlt]⟩
                  have hcd := Dig.dig_le c (Dig.all_mem _ s c hall.out hc)
                  have hcl := hcellb.out s c hc
                  have hcb : Box ((t)[s]? = some c) := ⟨hc⟩
                  clear hc
                  go_wp2
                  all_goals
                    go_round
                    case measure => simp [intOf]; omega
                    case rel =>
                      refine ⟨Dig.expo b c, s + 1, by omega, Nat.min_le_right _ _, by go_num, ?_, ⟨?_⟩⟩
                      · unfold Dig.expo
                        congr 1; omega
                      · rw [List.take_add_one, hcb.out, Option.toList_some, List.foldl_append, ← hbe.out]; rfl
                · have hsn : (t).take s = t := List.take_of_length_le (by omega)
                  have hba : b = a := by rw [hbe.out, hsn, ← ha.out]
                  subst hba
                  clear hsn
                  go_wp2
                  go_ret2
                  exact ⟨by rw [hl'b.out, hval.out]; rfl, hT⟩
            · have t3 : ((r : Int) != ((t).length : Int)) = true := by simp; omega
              have t4 : ((r : Int) == ((t).length : Int)) = false := by rw [beq_eq_false_iff_ne]; omega
              have hr : Box (Dig.readExp l = none) := ⟨by rw [hsp.out, Dig.expDigits_eq _ r hr0.out, if_pos (Or.inr (by omega))]; rfl⟩
              clear hrn hcall
              go_wp2
              go_ret2
              exact ⟨by rw [hl'b.out, hr.out]; rfl, ht1⟩
    · have hr : Box (Dig.readExp l = none) := ⟨by rw [hl']; unfold Dig.readExp; exact if_neg hce⟩
      have q1 : ((c.toNat : Int) == 101) = false := by rw [byte_101]; simp at hce; simpa using hce.1
      have q2 : ((c.toNat : Int) != 101) = true := by rw [bne, q1]; rfl
      have q3 : ((c.toNat : Int) == 69) = false := by rw [byte_69]; simp at hce; simpa using hce.2
      have q4 : ((c.toNat : Int) != 69) = true := by rw [bne, q3]; rfl
      clear hce
      have hl'b : Box (c :: t = l) := ⟨hl'.symm⟩
      clear hl'
      go_enter Tryd.func44, Tryd.ntmps44
      go_wp2
      go_ret2
      exact ⟨by rw [hl'b.out, hr.out]; rfl, Touch.refl _ _⟩
end Go.Proofs.YtcpfooceadgccaaDoor
