/- The reference's layer of digits: what each function returns. -/
import Derived.Test.YtcpfooceadgccaaDoorStr
import Derived.Test.YtcpfooceadgccaaDoorDigL
import Derived.Deep.LoopGhost
namespace Go.Proofs.YtcpfooceadgccaaDoor
open Go.RowKit
set_option maxRecDepth 100000
set_option maxHeartbeats 4000000
set_option linter.unusedVariables false
set_option linter.unusedSimpArgs false

/-- a number as Go's value -/
abbrev dec (x : Dig.Dec) : Value := .agg #[.bool x.neg, .string (str x.d), .int .i64 x.e]

theorem run_field2 (s : Bool) (d : ByteArray) (e : Int) (w : World) : (Instr.field 23 (.agg #[.bool s, .string d, .int .i64 e]) 2).run Tryd.prog w = .ok (.int .i64 e) w := by kernel_rfl

theorem snoc_of (l : List UInt8) (h : l ≠ []) : ∃ m b, l = m ++ [b] := ⟨l.dropLast, l.getLast h, (List.dropLast_concat_getLast h).symm⟩

theorem rnorm_any (x : Dig.Dec) (w : World) (hl : x.d.length ≤ 1000000000000) (he : x.e ≤ 1000000000000) (he' : -1000000000000 ≤ x.e) :
    Calls Tryd.prog 25 #[dec x] w fun e w' => e = .returned (dec (Dig.norm x)) ∧ Touch [] w w' := by
  obtain ⟨sg, d, E⟩ := x
  go_enter Tryd.func25, Tryd.ntmps25
  go_wp2
  have hw : Touch [] w ((w.alloc (Obj.cells #[Value.bool sg, Value.string (str d), Value.int IntKind.i64 E] 23)).alloc (Obj.cells #[Value.bool false, Value.string ⟨#[]⟩, Value.int IntKind.i64 0] 23)) := ((Touch.refl _ _).alloc _).alloc _
  go_loopg [] d.length (fun k wr => ∃ l, l.length ≤ k ∧ Dig.cutL l = Dig.cutL d ∧ l.length ≤ d.length ∧ wr.heap[w.heap.size]? = some (.cells #[.bool sg, .string (str l), .int .i64 E] 23) ∧ wr.heap[w.heap.size + 1]? = some (.cells #[.bool false, .string ⟨#[]⟩, .int .i64 0] 23) ∧ w.heap.size + 2 ≤ wr.heap.size ∧ Touch [] w wr)
  case atStart => exact ⟨d, Nat.le_refl _, rfl, Nat.le_refl _, alloc_old (alloc_new _ _) _, by have := alloc_new (w.alloc (Obj.cells #[Value.bool sg, Value.string (str d), Value.int IntKind.i64 E] 23)) (Obj.cells #[Value.bool false, Value.string ⟨#[]⟩, Value.int IntKind.i64 0] 23); simpa using this, by simp, hw⟩
  case round =>
    clear hw
    obtain ⟨l, hk, hcut, hle, hB, hR, hs, hT⟩ := hrel
    have c1 := cell_at hB 1
    have f1 := free_at hB 1
    have hbl : w.heap.size < wr.heap.size := by omega
    simp at c1
    have sz := str_size l
    by_cases h0 : l = []
    · have t0 : ¬ 0 < l.length := by rw [h0]; simp
      have hhead : l.head? ≠ some 48 := by rw [h0]; simp
      clear h0
      go_wp2
      obtain ⟨L, hLe⟩ : ∃ L, L = Dig.cutL d := ⟨_, rfl⟩
      have hL : l = L := hLe ▸ hcut ▸ (Dig.cutL_of_head _ hhead).symm
      have hcx : Dig.cutR L = Dig.core d := by rw [hLe]; rfl
      have hLb : Box (L = Dig.cutL d) := ⟨hLe⟩
      subst hL
      clear hLe hcut hhead
      have hE0 : IntKind.i64.wrap E = E := IntWalk.i64_in _ (by omega)
      go_loopg [] l.length (fun k wi => ∃ (m : List UInt8) (e : Int), m.length ≤ k ∧ k ≤ l.length ∧ Dig.cutR m = Dig.cutR l ∧ Box (e + m.length = E + l.length ∧ m.length ≤ l.length) ∧ wi.heap[w.heap.size]? = some (.cells #[.bool sg, .string (str m), .int .i64 e] 23) ∧ wi.heap[w.heap.size + 1]? = some (.cells #[.bool false, .string ⟨#[]⟩, .int .i64 0] 23) ∧ w.heap.size + 2 ≤ wi.heap.size ∧ Touch [] w wi)
      case atStart => exact ⟨l, E, Nat.le_refl _, Nat.le_refl _, rfl, ⟨rfl, Nat.le_refl _⟩, hB, hR, hs, hT⟩
      case round =>
        clear hB hR hs hT c1 f1 hbl sz t0
        obtain ⟨m, e, hk, hkl, hcut, hbox, hB, hR, hs, hT⟩ := hrel
        have c0 := cell_at hB 0
        have c1 := cell_at hB 1
        have c2 := cell_at hB 2
        have f1 := free_at hB 1
        have f2 := free_at hB 2
        have hbl : w.heap.size < wr.heap.size := by omega
        have r0 := cell_at hR 0
        have r1 := cell_at hR 1
        have r2 := cell_at hR 2
        have g0 := free_at hR 0
        have g1 := free_at hR 1
        have g2 := free_at hR 2
        have hbr : w.heap.size + 1 < wr.heap.size := by omega
        simp at c0 c1 c2 r0 r1 r2
        have sz := str_size m
        by_cases h0 : m = []
        · have t0 : ¬ 0 < m.length := by rw [h0]; simp
          have t2 : ((m.length : Int) == 0) = true := by rw [h0]; rfl
          have h0b : Box (m = []) := ⟨h0⟩
          clear h0
          go_wp2
          have h0 := h0b.out
          have hn : Dig.norm ⟨sg, d, E⟩ = Dig.zero := by
            unfold Dig.norm
            rw [if_pos (by rw [← hcx, ← hcut, h0]; rfl)]
          rw [hn]
          exact bodyPost_ret (v := dec Dig.zero) (by simp [results, Tryd.results25, go_sem, Dig.zero, str, r0, r1, r2]) rfl ⟨rfl, ((hT.setCell (by simp) _).setCell (by simp) _).setCell (by simp) _⟩
        · obtain ⟨t, c, hct⟩ := snoc_of m h0
          have hln : m.length = t.length + 1 := by rw [hct]; simp
          have t0 : 0 < m.length := by omega
          have t2 : ((m.length : Int) == 0) = false := by rw [hct]; simp; omega
          have i0 : ∀ w, (Instr.index 9 (.string (str m)) (.int .i64 ((m.length : Int) - 1))).run Tryd.prog w = .ok (.int .u8 c.toNat) w := fun w => by
            have := run_ix Tryd.underlying9 m .i64 t.length c (by rw [hct]; simp) w
            rw [show ((t.length : Nat) : Int) = (m.length : Int) - 1 by omega] at this
            exact this
          have i1 : ∀ w, (Instr.slice 9 (.string (str m)) none (some (.int .i64 ((m.length : Int) - 1))) none).run Tryd.prog w = .ok (.string (str t)) w := fun w => by
            have := run_to Tryd.underlying9 m .i64 t.length (by omega) w
            rw [show ((t.length : Nat) : Int) = (m.length : Int) - 1 by omega, show m.take t.length = t by rw [hct]; simp] at this
            exact this
          have hb2 := hbox.out
          have w1 : IntKind.i64.wrap ((m.length : Int) - 1) = (m.length : Int) - 1 := IntWalk.i64_in _ (by omega)
          have w2 : IntKind.i64.wrap (e + 1) = e + 1 := IntWalk.i64_in _ (by omega)
          clear hb2
          have bx : Box (m = t ++ [c]) := ⟨hct⟩
          have bl : Box (m.length = t.length + 1) := ⟨hln⟩
          by_cases h1 : c = 48
          · have t1 : ((c.toNat : Int) == 48) = true := by rw [h1]; rfl
            have bc : Box (c = 48) := ⟨h1⟩
            clear hct h1 h0 hln
            go_wp2
            go_roundg t.length
            case measure => have := bl.out; omega
            case rel =>
              have hm := bx.out
              have hml := bl.out
              have hb2 := hbox.out
              refine ⟨t, e + 1, Nat.le_refl _, by omega, ?_, ⟨by omega⟩, set_same (set_same hB 1 _) 2 _, set_other (set_other hR (by simp) _) (by simp) _, by simpa using hs, (hT.setCell (by simp) _).setCell (by simp) _⟩
              rw [← hcut, hm, bc.out, Dig.cutR_snoc]
          · have t1 : ((c.toNat : Int) == 48) = false := by
              rw [beq_eq_false_iff_ne]
              intro e
              exact h1 (UInt8.toNat_inj.1 (by have : (48 : UInt8).toNat = 48 := rfl; omega))
            clear hct h0 hln
            have bc : Box (c ≠ 48) := ⟨h1⟩
            clear h1
            go_wp2
            have hm := bx.out
            have hb2 := hbox.out
            have hcm : m = Dig.core d := by rw [← hcx, ← hcut, hm, Dig.cutR_of_last _ _ bc.out]
            have hn : Dig.norm ⟨sg, d, E⟩ = ⟨sg, m, e⟩ := by
              unfold Dig.norm
              rw [if_neg (by rw [← hcm]; intro e0; rw [e0] at t0; exact absurd t0 (by simp)), ← hcm, ← hLb.out]
              have : E + ((l.length : Int) - (m.length : Int)) = e := by omega
              rw [this]
            rw [hn]
            exact bodyPost_ret (v := dec ⟨sg, m, e⟩) (by simp [results, Tryd.results25, go_sem, r0, r1, r2]) rfl ⟨rfl, ((hT.setCell (by simp) _).setCell (by simp) _).setCell (by simp) _⟩
    · obtain ⟨c, t, hct⟩ : ∃ c t, l = c :: t := by cases l with | nil => exact absurd rfl h0 | cons c t => exact ⟨c, t, rfl⟩
      have t0 : 0 < l.length := by rw [hct]; simp
      have i0 : ∀ w, (Instr.index 9 (.string (str l)) (.int .i64 0)).run Tryd.prog w = .ok (.int .u8 c.toNat) w := fun w => run_ix Tryd.underlying9 l .i64 0 c (by rw [hct]; rfl) w
      have i1 : ∀ w, (Instr.slice 9 (.string (str l)) (some (.int .i64 1)) none none).run Tryd.prog w = .ok (.string (str t)) w := fun w => by
        have := run_from Tryd.underlying9 l .i64 1 (by rw [hct]; simp) w
        rw [show l.drop 1 = t by rw [hct]; rfl] at this
        exact this
      have bx : Box (l = c :: t) := ⟨hct⟩
      by_cases h1 : c = 48
      · have t1 : ((c.toNat : Int) == 48) = true := by rw [h1]; rfl
        have bc : Box (c = 48) := ⟨h1⟩
        clear hct h1 h0
        go_wp2
        go_roundg t.length
        case measure => have := bx.out; rw [this] at hk; simp at hk; omega
        case rel =>
          have := bx.out
          subst this
          refine ⟨t, Nat.le_refl _, ?_, by simp at hle; omega, set_same hB 1 _, set_other hR (by simp) _, by simpa using hs, hT.setCell (by simp) _⟩
          rw [← hcut, bc.out]
          rfl
      · have t1 : ((c.toNat : Int) == 48) = false := by
          rw [beq_eq_false_iff_ne]
          intro e
          exact h1 (UInt8.toNat_inj.1 (by have : (48 : UInt8).toNat = 48 := rfl; omega))
        clear hct h0
        have bc : Box (c ≠ 48) := ⟨h1⟩
        clear h1
        go_wp2
        have hhead : l.head? ≠ some 48 := by rw [bx.out]; simpa using bc.out
        clear i0 i1 bx t1 bc
        obtain ⟨L, hLe⟩ : ∃ L, L = Dig.cutL d := ⟨_, rfl⟩
        have hL : l = L := hLe ▸ hcut ▸ (Dig.cutL_of_head _ hhead).symm
        have hcx : Dig.cutR L = Dig.core d := by rw [hLe]; rfl
        have hLb : Box (L = Dig.cutL d) := ⟨hLe⟩
        subst hL
        clear hLe hcut hhead
        have hE0 : IntKind.i64.wrap E = E := IntWalk.i64_in _ (by omega)
        go_loopg [] l.length (fun k wi => ∃ (m : List UInt8) (e : Int), m.length ≤ k ∧ k ≤ l.length ∧ Dig.cutR m = Dig.cutR l ∧ Box (e + m.length = E + l.length ∧ m.length ≤ l.length) ∧ wi.heap[w.heap.size]? = some (.cells #[.bool sg, .string (str m), .int .i64 e] 23) ∧ wi.heap[w.heap.size + 1]? = some (.cells #[.bool false, .string ⟨#[]⟩, .int .i64 0] 23) ∧ w.heap.size + 2 ≤ wi.heap.size ∧ Touch [] w wi)
        case atStart => exact ⟨l, E, Nat.le_refl _, Nat.le_refl _, rfl, ⟨rfl, Nat.le_refl _⟩, hB, hR, hs, hT⟩
        case round =>
          clear hB hR hs hT c1 f1 hbl sz t0
          obtain ⟨m, e, hk, hkl, hcut, hbox, hB, hR, hs, hT⟩ := hrel
          have c0 := cell_at hB 0
          have c1 := cell_at hB 1
          have c2 := cell_at hB 2
          have f1 := free_at hB 1
          have f2 := free_at hB 2
          have hbl : w.heap.size < wr.heap.size := by omega
          have r0 := cell_at hR 0
          have r1 := cell_at hR 1
          have r2 := cell_at hR 2
          have g0 := free_at hR 0
          have g1 := free_at hR 1
          have g2 := free_at hR 2
          have hbr : w.heap.size + 1 < wr.heap.size := by omega
          simp at c0 c1 c2 r0 r1 r2
          have sz := str_size m
          by_cases h0 : m = []
          · have t0 : ¬ 0 < m.length := by rw [h0]; simp
            have t2 : ((m.length : Int) == 0) = true := by rw [h0]; rfl
            have h0b : Box (m = []) := ⟨h0⟩
            clear h0
            go_wp2
            have h0 := h0b.out
            have hn : Dig.norm ⟨sg, d, E⟩ = Dig.zero := by
              unfold Dig.norm
              rw [if_pos (by rw [← hcx, ← hcut, h0]; rfl)]
            rw [hn]
            exact bodyPost_ret (v := dec Dig.zero) (by simp [results, Tryd.results25, go_sem, Dig.zero, str, r0, r1, r2]) rfl ⟨rfl, ((hT.setCell (by simp) _).setCell (by simp) _).setCell (by simp) _⟩
          · obtain ⟨t, c, hct⟩ := snoc_of m h0
            have hln : m.length = t.length + 1 := by rw [hct]; simp
            have t0 : 0 < m.length := by omega
            have t2 : ((m.length : Int) == 0) = false := by rw [hct]; simp; omega
            have i0 : ∀ w, (Instr.index 9 (.string (str m)) (.int .i64 ((m.length : Int) - 1))).run Tryd.prog w = .ok (.int .u8 c.toNat) w := fun w => by
              have := run_ix Tryd.underlying9 m .i64 t.length c (by rw [hct]; simp) w
              rw [show ((t.length : Nat) : Int) = (m.length : Int) - 1 by omega] at this
              exact this
            have i1 : ∀ w, (Instr.slice 9 (.string (str m)) none (some (.int .i64 ((m.length : Int) - 1))) none).run Tryd.prog w = .ok (.string (str t)) w := fun w => by
              have := run_to Tryd.underlying9 m .i64 t.length (by omega) w
              rw [show ((t.length : Nat) : Int) = (m.length : Int) - 1 by omega, show m.take t.length = t by rw [hct]; simp] at this
              exact this
            have hb2 := hbox.out
            have w1 : IntKind.i64.wrap ((m.length : Int) - 1) = (m.length : Int) - 1 := IntWalk.i64_in _ (by omega)
            have w2 : IntKind.i64.wrap (e + 1) = e + 1 := IntWalk.i64_in _ (by omega)
            clear hb2
            have bx : Box (m = t ++ [c]) := ⟨hct⟩
            have bl : Box (m.length = t.length + 1) := ⟨hln⟩
            by_cases h1 : c = 48
            · have t1 : ((c.toNat : Int) == 48) = true := by rw [h1]; rfl
              have bc : Box (c = 48) := ⟨h1⟩
              clear hct h1 h0 hln
              go_wp2
              go_roundg t.length
              case measure => have := bl.out; omega
              case rel =>
                have hm := bx.out
                have hml := bl.out
                have hb2 := hbox.out
                refine ⟨t, e + 1, Nat.le_refl _, by omega, ?_, ⟨by omega⟩, set_same (set_same hB 1 _) 2 _, set_other (set_other hR (by simp) _) (by simp) _, by simpa using hs, (hT.setCell (by simp) _).setCell (by simp) _⟩
                rw [← hcut, hm, bc.out, Dig.cutR_snoc]
            · have t1 : ((c.toNat : Int) == 48) = false := by
                rw [beq_eq_false_iff_ne]
                intro e
                exact h1 (UInt8.toNat_inj.1 (by have : (48 : UInt8).toNat = 48 := rfl; omega))
              clear hct h0 hln
              have bc : Box (c ≠ 48) := ⟨h1⟩
              clear h1
              go_wp2
              have hm := bx.out
              have hb2 := hbox.out
              have hcm : m = Dig.core d := by rw [← hcx, ← hcut, hm, Dig.cutR_of_last _ _ bc.out]
              have hn : Dig.norm ⟨sg, d, E⟩ = ⟨sg, m, e⟩ := by
                unfold Dig.norm
                rw [if_neg (by rw [← hcm]; intro e0; rw [e0] at t0; exact absurd t0 (by simp)), ← hcm, ← hLb.out]
                have : E + ((l.length : Int) - (m.length : Int)) = e := by omega
                rw [this]
              rw [hn]
              exact bodyPost_ret (v := dec ⟨sg, m, e⟩) (by simp [results, Tryd.results25, go_sem, r0, r1, r2]) rfl ⟨rfl, ((hT.setCell (by simp) _).setCell (by simp) _).setCell (by simp) _⟩

theorem rnorm_of (s : Bool) (d : List UInt8) (e : Int) (w : World) (hl : d.length ≤ 1000000000000) (he : e ≤ 1000000000000) (he' : -1000000000000 ≤ e) :
    Calls Tryd.prog 25 #[.agg #[.bool s, .string (str d), .int .i64 e]] w fun r w' => r = .returned (.agg #[.bool (Dig.norm ⟨s, d, e⟩).neg, .string (str (Dig.norm ⟨s, d, e⟩).d), .int .i64 (Dig.norm ⟨s, d, e⟩).e]) ∧ Touch [] w w' := rnorm_any ⟨s, d, e⟩ w hl he he'
end Go.Proofs.YtcpfooceadgccaaDoor
