/- The reference's layer of numbers byte by byte: one byte more, the end. -/
import Derived.Test.YthdncmagfgoboaaGreatDoorNumC
import Derived.Test.YthdncmagfgoboaaGreatDoorBA
import Derived.Test.YthdncmagfgoboaaGreatDoorBB
import Derived.Deep.RegionHeld3
import Derived.Test.YthdncmagfgoboaaGreatDoorBP
import Derived.Deep.DeepCutAuto
import Derived.Outline
namespace Go.Proofs.YthdncmagfgoboaaGreatDoor
open Go.RowKit
set_option maxRecDepth 100000
set_option maxHeartbeats 4000000
set_option linter.unusedVariables false
set_option linter.unusedSimpArgs false

namespace Num
open Go.Proofs.YthdncmagfgoboaaGreatDoor.Dig (Bs run dig)
structure Parts.Good (p : Parts) (n : Nat) : Prop where
  d : p.d.all dig = true
  x : p.x.all dig = true
  ld : p.d.length ≤ n
  lx : p.x.length ≤ n
  lb : p.behind ≤ n

theorem cutX_good {d : Bs} {m n : Nat} {t : Bs} {P : Parts} (hd : d.all dig = true) (ld : d.length ≤ n) (lm : m ≤ n) (lt : t.length ≤ n) (h : cutX d m t = some P) : P.Good n := by
  have h1 : t.tail.length ≤ n := by rw [List.length_tail]; omega
  unfold cutX at h
  repeat' split at h
  all_goals first
    | (injection h with h; subst h; rename_i h0; first | exact ⟨hd, h0, ld, h1, lm⟩ | exact ⟨hd, h0, ld, lt, lm⟩)
    | cases h
theorem cutE_good {d : Bs} {m n : Nat} {t : Bs} {P : Parts} (hd : d.all dig = true) (ld : d.length ≤ n) (lm : m ≤ n) (lt : t.length ≤ n) (h : cutE d m t = some P) : P.Good n := by
  unfold cutE at h
  split at h
  · exact cutX_good hd ld lm (by rw [List.length_tail]; omega) h
  · cases h
theorem all_app {a b : Bs} (ha : a.all dig = true) (hb : b.all dig = true) : (a ++ b).all dig = true := by rw [List.all_append, ha, hb]; rfl
theorem cutP_good {d v : Bs} {n : Nat} {P : Parts} (hd : d.all dig = true) (ld : d.length + v.length ≤ n) (h : cutP d v = some P) : P.Good n := by
  have hr := Dig.run_le v
  have ht := Dig.run_take v
  have e1 : (d ++ v.take (run v)).length ≤ n := by rw [List.length_append, List.length_take]; omega
  unfold cutP at h
  split at h
  · injection h with h; subst h
    exact ⟨all_app hd ht, rfl, e1, Nat.zero_le _, by show run v ≤ n; omega⟩
  · split at h
    · cases h
    · exact cutE_good (all_app hd ht) e1 (by omega) (by rw [List.length_drop]; omega) h
theorem cutB_good {t : Bs} {n : Nat} {P : Parts} (lt : t.length ≤ n) (h : cutB t = some P) : P.Good n := by
  have hr := Dig.run_le t
  have ht := Dig.run_take t
  have e1 : (t.take (run t)).length ≤ n := by rw [List.length_take]; omega
  unfold cutB at h
  split at h
  · cases h
  · split at h
    · injection h with h; subst h
      exact ⟨ht, rfl, e1, Nat.zero_le _, Nat.zero_le _⟩
    · split at h
      · cases h
      · split at h
        · exact cutP_good ht (by rw [List.length_take, List.length_tail, List.length_drop]; omega) h
        · exact cutE_good ht e1 (Nat.zero_le _) (by rw [List.length_drop]; omega) h
theorem cutO_good {s : Bs} {n : Nat} {P : Parts} (ls : s.length ≤ n) (h : cutO s = some P) : P.Good n := by
  unfold cutO at h
  split at h
  · exact cutB_good (by rw [List.length_tail]; omega) h
  · exact cutB_good ls h

theorem norm_bounds (s : Bool) (D : Bs) (E : Int) (n : Nat) (hn : D.length ≤ n) (he : E ≤ 1000000000) (he' : -(n : Int) - 1000000000 ≤ E) (hb : n ≤ 10000000) :
    (Dig.norm ⟨s, D, E⟩).d.length ≤ 1000000000000 ∧ (Dig.norm ⟨s, D, E⟩).e ≤ 1000000000000 ∧ -1000000000000 ≤ (Dig.norm ⟨s, D, E⟩).e := by
  have h1 := norm_e_small ⟨s, D, E⟩
  have h2 : (Dig.norm ⟨s, D, E⟩).d.length ≤ D.length := by rw [Dig.norm_d]; exact Dig.core_le D
  simp only at h1
  omega
theorem readBody_bounds (s : Bool) (t : Bs) (d : Dig.Dec) (hl : t.length ≤ 1000000) (h : Dig.readBody s t = some d) :
    (d.d.length ≤ 1000000000000 ∧ d.e ≤ 1000000000000 ∧ -1000000000000 ≤ d.e) ∧ d.d.all dig = true := by
  have hr := Dig.run_le t
  have ht := Dig.run_take t
  unfold Dig.readBody at h
  split at h
  · cases h
  · split at h
    · split at h
      · cases h
      · obtain ⟨e, he, hd⟩ := Option.map_eq_some_iff.1 h
        have hb := Dig.readExp_bound _ _ he
        have h2 := Dig.run_le (t.drop (run t + 1))
        rw [List.length_drop] at h2
        subst hd
        refine ⟨norm_bounds _ _ _ 2000000 (by rw [List.length_append, List.length_take, List.length_take, List.length_drop]; omega) (by omega) (by omega) (by omega), Dig.norm_all _ ?_⟩
        exact all_app ht (Dig.run_take _)
    · obtain ⟨e, he, hd⟩ := Option.map_eq_some_iff.1 h
      have hb := Dig.readExp_bound _ _ he
      subst hd
      exact ⟨norm_bounds _ _ _ 2000000 (by rw [List.length_take]; omega) (by omega) (by omega) (by omega), Dig.norm_all _ ht⟩
theorem read_all (s : Bs) (d : Dig.Dec) (hl : s.length ≤ 1000000) (h : Dig.read s = some d) :
    (d.d.length ≤ 1000000000000 ∧ d.e ≤ 1000000000000 ∧ -1000000000000 ≤ d.e) ∧ d.d.all dig = true := by
  unfold Dig.read at h
  split at h
  · exact readBody_bounds _ _ _ (by rw [List.length_tail]; omega) h
  · exact readBody_bounds _ _ _ hl h
theorem read_bounds (s : Bs) (hl : s.length ≤ 1000000) : ((Dig.read s).getD Dig.zero).d.length ≤ 1000000000000 ∧ ((Dig.read s).getD Dig.zero).e ≤ 1000000000000 ∧ -1000000000000 ≤ ((Dig.read s).getD Dig.zero).e := by
  cases h : Dig.read s with
  | none => exact ⟨by decide, by decide, by decide⟩
  | some d => exact (read_all s d hl h).1
theorem read_digits (s : Bs) (d : Dig.Dec) (h : Dig.read s = some d) (hl : s.length ≤ 1000000 := by omega) : d.d.all dig = true := (read_all s d hl h).2

/-- the reference: one byte more: the error, or the text -/
def rpush (s : Bs) (x : UInt8) : Except Nat Bs :=
  match cutO (s ++ [x]) with
  | none => .error 2
  | some p => if mayP p = true then .ok (s ++ [x]) else
    if Dig.whole ((Dig.read (standsL (s ++ [x]))).getD Dig.zero) = true then .error 8 else .error 7

/-- what it is at its end -/
def rend (s : Bs) : Int × Int :=
  match Dig.read s with
  | none => (0, 3)
  | some d => Dig.int d
end Num

def partsV (p : Num.Parts) : Value := .agg #[.string (str p.d), .int .i64 p.behind, .bool p.e, .int .u8 p.sign, .string (str p.x)]

theorem rcut_yes (l : List UInt8) (P : Num.Parts) (w : World) (hl : l.length ≤ 1000000) (h : Num.cutO l = some P) :
    Calls Tryz.prog 61 #[.string (str l)] w fun e w' => e = .returned (.tuple #[.agg #[.string (str P.d), .int .i64 P.behind, .bool P.e, .int .u8 P.sign, .string (str P.x)], .bool true]) ∧ Touch [] w w' := by
  obtain ⟨q, hq, hP⟩ := cut_f l hl
  have := hP P h
  subst this
  rw [h] at hq
  exact (XN2.orthoepyref11_cut.calls _ _ _ _ _ _ _ _ w hq).mono fun _ _ h => ⟨h.1, Touch.of_below h.2 _⟩
theorem rcut_no (l : List UInt8) (w : World) (hl : l.length ≤ 1000000) (h : Num.cutO l = none) :
    Calls Tryz.prog 61 #[.string (str l)] w fun e w' => (∃ P : Num.Parts, e = .returned (.tuple #[.agg #[.string (str P.d), .int .i64 P.behind, .bool P.e, .int .u8 P.sign, .string (str P.x)], .bool false])) ∧ Touch [] w w' := by
  obtain ⟨q, hq, hP⟩ := cut_f l hl
  rw [h] at hq
  exact (XN2.orthoepyref11_cut.calls _ _ _ _ _ _ _ _ w hq).mono fun _ _ h => ⟨⟨q, h.1⟩, Touch.of_below h.2 _⟩
theorem rmay_any (p : Num.Parts) (w : World) (n : Nat) (hg : p.Good n) (hn : n ≤ 1000000) :
    Calls Tryz.prog 62 #[.agg #[.string (str p.d), .int .i64 p.behind, .bool p.e, .int .u8 p.sign, .string (str p.x)]] w fun e w' => e = .returned (.bool (Num.mayP p)) ∧ Touch [] w w' :=
  (XN1.orthoepyref11_may.calls _ _ _ _ _ _ _ w (may_eq p hg.d hg.x (Nat.le_trans hg.ld hn) (Nat.le_trans hg.lx hn) (Nat.le_trans hg.lb hn))).mono fun _ _ h => ⟨h.1, Touch.of_below h.2 _⟩
theorem rstands_any (l : List UInt8) (w : World) (hl : l.length ≤ 1000000) :
    Calls Tryz.prog 64 #[.string (str l)] w fun e w' => e = .returned (.string (str (Num.standsL l))) ∧ Touch [] w w' :=
  (XN1.orthoepyref11_stands.calls (l.length + 1) _ _ w (stands_eq (l.length + 1) l (by omega) (by omega))).mono fun _ _ h => ⟨h.1, by obtain ⟨n, hn⟩ := h.2.out; rw [hn]; exact (Touch.refl _ _).drewN n⟩
theorem stands_len (l : List UInt8) : (Num.standsL l).length ≤ l.length := by
  unfold Num.standsL
  rw [List.length_reverse]
  have := (List.dropWhile_sublist (fun c => !Dig.dig c) (l := l.reverse)).length_le
  rw [List.length_reverse] at this
  exact this

/-- the reference's number lies at b -/
def RNumAt (w : World) (b : Nat) (s : List UInt8) : Prop := w.heap[b]? = some (.cells #[.string (str s)] 121 (0, 0))

theorem conv_one (W : World) (b : Nat) (x : UInt8) (h : W.cell? ⟨b, 0, none⟩ = some (.int .u8 x.toNat)) :
    (convert 22 9 (.slice (some ⟨b, 0, none⟩) 1 1)).run Tryz.prog W = .ok (.string (str [x])) W := by
  have := run_convert_bytes_back (P := Tryz.prog) W 22 9 5 ⟨b, 0, none⟩ 1 [x] Tryz.underlying22 Tryz.underlying5 Tryz.underlying9 (fun k hk => by
    have hk0 : k = 0 := by simpa using hk
    subst hk0
    exact h)
  exact this

def RPushPost (b : Nat) (s : List UInt8) (x : UInt8) (w : World) (e : Ending) (w' : World) : Prop :=
  match Num.rpush s x with
  | .error c => e = .returned (.int .i64 c) ∧ RNumAt w' b s ∧ Touch [b] w w'
  | .ok s' => e = .returned (.int .i64 0) ∧ RNumAt w' b s' ∧ Touch [b] w w'
theorem rpushPost_err {b : Nat} {s : List UInt8} {x : UInt8} {w w' : World} {c : Nat} (he : Num.rpush s x = .error c) (h : RNumAt w' b s) (ht : Touch [b] w w') : RPushPost b s x w (.returned (.int .i64 c)) w' := by
  unfold RPushPost; rw [he]; exact ⟨rfl, h, ht⟩
theorem rpushPost_ok {b : Nat} {s s' : List UInt8} {x : UInt8} {w w' : World} (he : Num.rpush s x = .ok s') (h : RNumAt w' b s') (ht : Touch [b] w w') : RPushPost b s x w (.returned (.int .i64 0)) w' := by
  unfold RPushPost; rw [he]; exact ⟨rfl, h, ht⟩

theorem rpush_any (b : Nat) (s : List UInt8) (x : UInt8) (w : World) (hN : RNumAt w b s) (hl : s.length ≤ 100000) :
    Calls Tryz.prog 39 #[.pointer (some ⟨b, 0, none⟩), .int .u8 x.toNat] w (RPushPost b s x w) := by
  unfold RNumAt at hN
  have hx := x.toNat_lt
  obtain ⟨S, hS⟩ : ∃ S, S = s ++ [x] := ⟨_, rfl⟩
  have hSl : S.length ≤ 100001 := by rw [hS, List.length_append]; simp; omega
  have hcat : ∀ w, (Op.stringOp .add (str s) (str [x])).run Tryz.prog w = .ok (.string (str S)) w := fun w => by rw [hS]; exact run_cat s [x] (by simp; omega) w
  have hdef : Num.rpush s x = match Num.cutO S with
    | none => .error 2
    | some p => if Num.mayP p = true then .ok S else if Dig.whole ((Dig.read (Num.standsL S)).getD Dig.zero) = true then .error 8 else .error 7 := by rw [hS]; rfl
  replace hdef := Box.mk hdef
  replace hS := Box.mk hS
  have hcl : ∀ w', Touch [] w w' → ∀ i, w'.cell? ⟨b, i, none⟩ = (#[.string (str s)] : Array Value)[i]? := fun w' h => cell_at (h.keep hN (by simp))
  have hcv := fun W b h => conv_one W b x h
  go_enter Tryz.func39, Tryz.ntmps39
  go_upto_region 1 with (fail)
  go_cut [5] (fun v wx => v = .string (str S) ∧ Touch [] w wx)
  case first =>
    have hN0 := cell_at hN 0
    have lb := block_lt hN
    simp at hN0
    go_region_with (fail)
    all_goals
      go_wp2
      go_meet
      refine ⟨rfl, ?_⟩
      repeat (first | (with_reducible exact Touch.refl _ _) | (with_reducible assumption) | (with_reducible apply Touch.drew) | (with_reducible apply Touch.alloc))
  case rest =>
    obtain ⟨rfl, hT⟩ := hcut
    have hN2 := hT.keep hN (by simp)
    clear hcl hcv hcat hN
    cases hc : Num.cutO S with
    | none =>
      have he : Box (Num.rpush s x = .error 2) := ⟨by rw [hdef.out, hc]⟩
      have hcut := fun w => rcut_no S w (by omega) hc
      clear hdef hc
      go_wp2_with fail
      refine (hcut _).mono ?_
      rintro e w1 ⟨⟨P, rfl⟩, ht1⟩
      try go_simp
      go_wp2
      go_ret
      exact rpushPost_err he.out (alloc_old (ht1.keep hN2 (by simp)) _) (((hT.trans ht1).alloc _).mono (by simp))
    | some P =>
      have hg := Num.cutO_good (n := 100001) hSl hc
      have hcut := fun w => rcut_yes S P w (by omega) hc
      have hmay := fun w => rmay_any P w 100001 hg (by omega)
      rw [hc] at hdef
      clear hc hg
      go_wp2_with fail
      refine (hcut _).mono ?_
      rintro e w1 ⟨rfl, ht1⟩
      try go_simp
      have hN3 := ht1.keep hN2 (by simp)
      have hT3 := hT.trans ht1
      clear ht1 hcut hN2 hT
      go_wp2_with fail
      cases hm : Num.mayP P with
      | true =>
        have he : Box (Num.rpush s x = .ok S) := ⟨by rw [hdef.out]; simp only [hm]; rfl⟩
        rw [hm] at hmay
        clear hdef hm
        refine (hmay _).mono ?_
        rintro e w2 ⟨rfl, ht2⟩
        try go_simp
        have hN4 := ht2.keep (alloc_old hN3 _) (by simp)
        have c0 := cell_at hN4 0
        have f0 := free_at hN4 0
        have lb := block_lt hN4
        simp at c0
        go_wp2
        go_ret
        exact rpushPost_ok he.out (set_same hN4 0 _) ((((hT3.alloc _).trans ht2).mono (by simp)).setCell (by simp) _)
      | false =>
        have hdef2 : Box (Num.rpush s x = if Dig.whole ((Dig.read (Num.standsL S)).getD Dig.zero) = true then .error 8 else .error 7) := ⟨by rw [hdef.out]; simp only [hm]; rfl⟩
        rw [hm] at hmay
        clear hdef hm
        refine (hmay _).mono ?_
        rintro e w2 ⟨rfl, ht2⟩
        try go_simp
        have hN4 := ht2.keep (alloc_old hN3 _) (by simp)
        have hT4 := (hT3.alloc _).trans ht2
        clear ht2 hmay hN3 hT3
        have hst := fun w => rstands_any S w (by omega)
        have hsl := stands_len S
        obtain ⟨U, hU⟩ : ∃ U, U = Num.standsL S := ⟨_, rfl⟩
        rw [← hU] at hst hsl hdef2
        clear hU
        have hrd := fun w => rread_any U w (by omega)
        have hwb := Num.read_bounds U (by omega)
        obtain ⟨y, hy⟩ : ∃ y, y = (Dig.read U).getD Dig.zero := ⟨_, rfl⟩
        rw [← hy] at hrd hwb hdef2
        obtain ⟨hw1, hw2, hw3⟩ := hwb
        generalize (Dig.read U).isSome = k at hrd
        clear hy
        have hwh := fun w => rwhole_any y w hw1 hw2 hw3
        obtain ⟨wh, hwhe⟩ : ∃ wh, wh = Dig.whole y := ⟨_, rfl⟩
        rw [← hwhe] at hwh hdef2
        clear hwhe hw1 hw2 hw3
        obtain ⟨ys, yd, ye⟩ := y
        simp only [dec] at hrd hwh
        go_wp2_with fail
        refine (hst _).mono ?_
        rintro e w3 ⟨rfl, ht3⟩
        try go_simp
        go_wp2_with fail
        refine (hrd _).mono ?_
        rintro e w4 ⟨rfl, ht4⟩
        try go_simp
        have hN5 := (ht3.trans ht4).keep hN4 (by simp)
        have hT5 := hT4.trans (ht3.trans ht4)
        clear ht3 ht4 hN4 hT4 hst hrd
        go_wp2_with fail
        refine (hwh _).mono ?_
        rintro e w5 ⟨rfl, ht5⟩
        try go_simp
        have hN6 := ht5.keep (alloc_old hN5 _) (by simp)
        have hT6 := ((hT5.alloc _).trans ht5).mono (G := [b]) (by simp)
        cases wh with
        | true =>
          go_wp2
          go_ret
          exact rpushPost_err (by simpa using hdef2.out) hN6 hT6
        | false =>
          go_wp2
          go_ret
          exact rpushPost_err (by simpa using hdef2.out) hN6 hT6

theorem rend_any (b : Nat) (s : List UInt8) (w : World) (hN : RNumAt w b s) (hl : s.length ≤ 100000) :
    Calls Tryz.prog 43 #[.pointer (some ⟨b, 0, none⟩)] w fun e w' => e = .returned (.tuple #[.int .i64 (Num.rend s).1, .int .i64 (Num.rend s).2]) ∧ Touch [] w w' := by
  unfold RNumAt at hN
  have c0 := cell_at hN 0
  have lb := block_lt hN
  simp at c0
  cases hr : Dig.read s with
  | none =>
    have hrd : ∀ w, Calls Tryz.prog 63 #[.string (str s)] w fun e w' => e = .returned (.tuple #[.agg #[.bool false, .string ⟨#[]⟩, .int .i64 0], .bool false]) ∧ Touch [] w w' := fun w => by
      have := rread_any s w (by omega)
      rw [hr] at this
      exact this
    have he : Box (Num.rend s = (0, 3)) := ⟨by unfold Num.rend; rw [hr]⟩
    clear hr hN
    let kp_ : Exit → Act → World → Prop := bodyPost Tryz.prog Tryz.f43 (fun _ _ => True)
    refine calls_post Tryz.func43 rfl ?_
    intro Q_ hQ_
    simp only [Tryz.ntmps43, List.size_toArray, List.length_cons, List.length_nil, Nat.reduceAdd, Nat.reduceSub, Array.replicate_succ, Array.replicate_zero, List.push_toArray, List.append_toArray, List.nil_append, List.cons_append]
    go_wp2_with fail
    refine (hrd _).mono ?_
    rintro e w1 ⟨rfl, ht1⟩
    try go_simp
    go_wp2
    (try simp only [Exit.inBlock, Exit.then])
    refine hQ_.ret (results_tmp2 rfl _ _ _) rfl ?_
    exact ⟨by rw [he.out]; rfl, ht1.alloc _⟩
  | some d =>
    have hrd : ∀ w, Calls Tryz.prog 63 #[.string (str s)] w fun e w' => e = .returned (.tuple #[.agg #[.bool d.neg, .string (str d.d), .int .i64 d.e], .bool true]) ∧ Touch [] w w' := fun w => by
      have := rread_any s w (by omega)
      rw [hr] at this
      exact this
    have hwb := Num.read_bounds s (by omega)
    have hdd := Num.read_digits s d hr (by omega)
    rw [hr] at hwb
    obtain ⟨hw1, hw2, hw3⟩ := hwb
    have hin := fun w => rint_any d w hw1 hw2 hw3 hdd
    have he : Box (Num.rend s = Dig.int d) := ⟨by unfold Num.rend; rw [hr]⟩
    generalize Dig.int d = I at hin he
    obtain ⟨i1, i2⟩ := I
    obtain ⟨ys, yd, ye⟩ := d
    simp only [dec] at hin
    clear hr hN hw1 hw2 hw3 hdd
    let kp_ : Exit → Act → World → Prop := bodyPost Tryz.prog Tryz.f43 (fun _ _ => True)
    refine calls_post Tryz.func43 rfl ?_
    intro Q_ hQ_
    simp only [Tryz.ntmps43, List.size_toArray, List.length_cons, List.length_nil, Nat.reduceAdd, Nat.reduceSub, Array.replicate_succ, Array.replicate_zero, List.push_toArray, List.append_toArray, List.nil_append, List.cons_append]
    go_wp2_with fail
    refine (hrd _).mono ?_
    rintro e w1 ⟨rfl, ht1⟩
    try go_simp
    go_wp2_with fail
    refine (hin _).mono ?_
    rintro e w2 ⟨rfl, ht2⟩
    try go_simp
    go_wp2
    (try simp only [Exit.inBlock, Exit.then])
    refine hQ_.ret (results_tmp2 rfl _ _ _) rfl ?_
    exact ⟨by rw [he.out]; rfl, (ht1.alloc _).trans ht2⟩
end Go.Proofs.YthdncmagfgoboaaGreatDoor
