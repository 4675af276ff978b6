/- The program's layer of digits: what is printed. -/
import Derived.Test.YtcpfooceadgccaaDoorDigP
import Derived.Test.YtcpfooceadgccaaDoorDigRP
import Derived.Deep.LoopGhost
import Derived.Outline
namespace Go.Proofs.YtcpfooceadgccaaDoor
open Go.RowKit Go.Shelf
set_option maxRecDepth 100000
set_option maxHeartbeats 4000000
set_option linter.unusedVariables false
set_option linter.unusedSimpArgs false

/-- the array's cells: from a place on these bytes -/
def Tail (wr : World) (B at_ : Nat) (D : List UInt8) : Prop := ∃ cs : Array Value, wr.heap[B]? = some (.cells cs 67 (0, 0)) ∧ cs.size = 20 ∧ ∀ j b, D[j]? = some b → cs[at_ + j]? = some (.int .u8 b.toNat)

theorem slice_arr (B q : Nat) (hq : q < 20) (w : World) : (Instr.sliceAt 67 (.pointer (some ⟨B, 0, none⟩)) (some (.int .i64 (q : Int))) none none).run Tryd.prog w = .ok (.slice (some ⟨B, q, none⟩) (20 - q) (20 - q)) w := by
  have h1 : Tryd.prog.arrayLen 67 = 20 := by kernel_rfl
  have h2 : Tryd.prog.elem 67 = 5 := by kernel_rfl
  rw [run_sliceAt_array_l w 67 ⟨B, 0, none⟩ (by kernel_rfl) .i64 q (by omega) (by rw [h1]; omega), h1, h2]
  have h3 : (sizeOf 5).run Tryd.prog w = .ok 1 w := by kernel_rfl
  rw [h3]
  have h4 : (⟨B, 0, none⟩ : Addr).add (q * 1) = ⟨B, q, none⟩ := by unfold Addr.add; split <;> simp_all
  simp only [Result.andThen, slicedAt, Int.toNat_natCast, h4]
  rw [if_neg (by omega)]
theorem conv_back (W : World) (B q : Nat) (L : List UInt8) (hL : L.length = 20 - q) (cs : Array Value) (hb : W.heap[B]? = some (.cells cs 67 (0, 0))) (hc : ∀ j b, L[j]? = some b → cs[q + j]? = some (.int .u8 b.toNat)) :
    (convert 42 9 (.slice (some ⟨B, q, none⟩) (20 - q) (20 - q))).run Tryd.prog W = .ok (.string (str L)) W := by
  have := run_convert_bytes_back (P := Tryd.prog) W 42 9 5 ⟨B, q, none⟩ (20 - q) L Tryd.underlying42 Tryd.underlying5 Tryd.underlying9 (fun k hk => by
    have e1 : (⟨B, q, none⟩ : Addr).add k = ⟨B, q + k, none⟩ := by unfold Addr.add; split <;> simp_all
    rw [e1, cell_at hb]
    exact hc k _ (by rw [List.getElem?_eq_getElem]))
  rw [hL] at this
  exact this


theorem pprint_any (n : Int) (w : World) (h1 : -9223372036854775808 ≤ n) (h2 : n ≤ 9223372036854775807) :
    Calls Tryd.prog 19 #[.int .i64 n] w fun e w' => e = .returned (.string (str (Dig.print n))) ∧ Touch [] w w' := by
  by_cases hn : n < 0
  · obtain ⟨M, hM0⟩ : ∃ M : Nat, n = -(M : Int) := ⟨n.natAbs, by omega⟩
    have hMb : M ≤ 9223372036854775808 := by omega
    have hM1 : 1 ≤ M := by omega
    have hpr : Box (Dig.print n = 45 :: Dig.digs M) := ⟨by unfold Dig.print; rw [if_pos hn, show n.natAbs = M by omega]⟩
    have t0 : decide (n < 0) = true := by simpa using hn
    obtain ⟨x, hx⟩ : ∃ x, x = IntKind.u64.wrap n := ⟨_, rfl⟩
    have e1 : IntKind.u64.wrap n = x := hx.symm
    have e5 : IntKind.u64.wrap (-x) = M := by
      rw [hx, IntKind.wrap_u64, IntKind.wrap_u64]; omega
    clear h1 h2 hM0 hx
    go_enter Tryd.func19, Tryd.ntmps19
    go_wp2
    go_loopg [3, 5] 20 (fun k v3 v5 wr => ∃ (u p : Nat) (D : List UInt8), v3 = .int .u64 u ∧ v5 = .int .i64 p ∧ p ≤ k ∧ u ≤ 9223372036854775808 ∧ p + D.length = 20 ∧ Box (Dig.digs M = Dig.digs u ++ D) ∧ Tail wr w.heap.size p D ∧ w.heap.size < wr.heap.size ∧ Touch [] w wr)
    case atStart =>
      exact ⟨M, 20, [], rfl, rfl, Nat.le_refl _, by omega, rfl, ⟨by simp⟩, ⟨_, alloc_new _ _, rfl, by simp⟩, by simp, (Touch.refl _ _).alloc _⟩
    case round =>
      obtain ⟨u, p, D, rfl, rfl, hk, hu, hp, hM, ⟨cs, hb, hcs, hD⟩, hs, hT⟩ := hrel
      have hpos : 1 ≤ p := by
        have h1 : (Dig.digs M).length ≤ 20 := digs_len 19 M (by omega)
        rw [hM.out, List.length_append] at h1
        have h2 : 0 < (Dig.digs u).length := List.length_pos_iff.2 (Dig.digs_ne u)
        omega
      obtain ⟨q, rfl⟩ : ∃ q, p = q + 1 := ⟨p - 1, by omega⟩
      obtain ⟨r, hr⟩ : ∃ r, r = u % 10 := ⟨_, rfl⟩
      obtain ⟨v, hv⟩ : ∃ v, v = u / 10 := ⟨_, rfl⟩
      have er : (u : Int) % 10 = r := by omega
      have ev : (u : Int) / 10 = v := by omega
      have hr9 : r ≤ 9 := by omega
      have hvb : v ≤ 922337203685477580 := by omega
      have e2 : IntKind.u8.wrap (r : Int) = r := IntWalk.u8_in _ (by omega)
      have e3 : IntKind.u8.wrap (48 + (r : Int)) = 48 + r := IntWalk.u8_in _ (by omega)
      have f0 := free_at hb q
      have hq20 : q < 20 := by omega
      have hcq : ∃ x, wr.cell? ⟨w.heap.size, q, none⟩ = some x := ⟨cs[q]'(by omega), by rw [cell_at hb]; simp [hcs, hq20]⟩
      obtain ⟨x, hx⟩ := hcq
      have hub : Box (u = 10 * v + r) := ⟨by omega⟩
      have hlen : D.length ≤ 19 := by omega
      have hfig : (Dig.fig r).toNat = 48 + r := Dig.toNat_digit r (by omega)
      have hD' : Tail (wr.setCell ⟨w.heap.size, q, none⟩ (.int .u8 (48 + r))) w.heap.size q (Dig.fig r :: D) := ⟨_, set_same hb q _, by simpa using hcs, fun j b hj => by
        cases j with
        | zero =>
          simp at hj
          rw [← hj, hfig]
          simp [hcs, hq20]
        | succ j =>
          have := hD j b (by simpa using hj)
          rw [show q + (j + 1) = q + 1 + j by omega, Array.getElem?_setIfInBounds_ne (by omega)]
          exact this⟩
      replace hD' : Box (Tail (wr.setCell ⟨w.heap.size, q, none⟩ (.int .u8 (48 + r))) w.heap.size q (Dig.fig r :: D)) := ⟨hD'⟩
      clear hr hv
      by_cases hv0 : v = 0
      · have t1 : ((v : Int) == 0) = true := by rw [hv0]; rfl
        have hfin : Box (Dig.digs M = Dig.fig r :: D) := ⟨by rw [hM.out, digs_one u (by have := hub.out; omega), show u = r by have := hub.out; omega]; rfl⟩
        have hsl := slice_arr w.heap.size q hq20
        have hlq : (Dig.fig r :: D).length = 20 - q := by simp; omega
        have hcb : (convert 42 9 (.slice (some ⟨w.heap.size, q, none⟩) (20 - q) (20 - q))).run Tryd.prog (wr.setCell ⟨w.heap.size, q, none⟩ (.int .u8 (48 + r))) = .ok (.string (str (Dig.fig r :: D))) (wr.setCell ⟨w.heap.size, q, none⟩ (.int .u8 (48 + r))) := by
          obtain ⟨cs', h1, _, h2⟩ := hD'.out
          exact conv_back _ _ _ _ hlq cs' h1 h2
        have hcat : ∀ w', (Op.stringOp .add ⟨#[45]⟩ (str (Dig.fig r :: D))).run Tryd.prog w' = .ok (.string (str (45 :: Dig.fig r :: D))) w' := fun w' => run_cat [45] (Dig.fig r :: D) (by simp; omega) w'
        clear hv0 hlq
        go_wp2
        go_ret
        exact ⟨by rw [hpr.out, hfin.out]; rfl, hT.setCell (by simp) _⟩
      · have t1 : ((v : Int) == 0) = false := by rw [beq_eq_false_iff_ne]; omega
        have hfin : Box (Dig.digs M = Dig.digs v ++ Dig.fig r :: D) := ⟨by
          rw [hM.out, digs_rec u (by have := hub.out; omega), show u / 10 = v by have := hub.out; omega, show u % 10 = r by have := hub.out; omega]; simp⟩
        clear hv0
        go_wp2
        go_roundg q
        case measure => omega
        case rel => exact ⟨v, q, Dig.fig r :: D, rfl, by go_num, by omega, by omega, by simp; omega, hfin, hD'.out, by simpa using hs, hT.setCell (by simp) _⟩
  · obtain ⟨M, rfl⟩ : ∃ M : Nat, n = (M : Int) := ⟨n.natAbs, by omega⟩
    have hMb : M ≤ 9223372036854775807 := by omega
    have hpr : Box (Dig.print (M : Int) = Dig.digs M) := ⟨by unfold Dig.print; rw [if_neg hn, show (M : Int).natAbs = M by omega]⟩
    have t0 : decide ((M : Int) < 0) = false := by simp
    have e1 : IntKind.u64.wrap (M : Int) = M := IntWalk.u64_in _ (by omega)
    clear h1 h2 hn
    go_enter Tryd.func19, Tryd.ntmps19
    go_wp2
    go_loopg [3, 5] 20 (fun k v3 v5 wr => ∃ (u p : Nat) (D : List UInt8), v3 = .int .u64 u ∧ v5 = .int .i64 p ∧ p ≤ k ∧ u ≤ 9223372036854775808 ∧ p + D.length = 20 ∧ Box (Dig.digs M = Dig.digs u ++ D) ∧ Tail wr w.heap.size p D ∧ w.heap.size < wr.heap.size ∧ Touch [] w wr)
    case atStart =>
      exact ⟨M, 20, [], rfl, rfl, Nat.le_refl _, by omega, rfl, ⟨by simp⟩, ⟨_, alloc_new _ _, rfl, by simp⟩, by simp, (Touch.refl _ _).alloc _⟩
    case round =>
      obtain ⟨u, p, D, rfl, rfl, hk, hu, hp, hM, ⟨cs, hb, hcs, hD⟩, hs, hT⟩ := hrel
      have hpos : 1 ≤ p := by
        have h1 : (Dig.digs M).length ≤ 20 := digs_len 19 M (by omega)
        rw [hM.out, List.length_append] at h1
        have h2 : 0 < (Dig.digs u).length := List.length_pos_iff.2 (Dig.digs_ne u)
        omega
      obtain ⟨q, rfl⟩ : ∃ q, p = q + 1 := ⟨p - 1, by omega⟩
      obtain ⟨r, hr⟩ : ∃ r, r = u % 10 := ⟨_, rfl⟩
      obtain ⟨v, hv⟩ : ∃ v, v = u / 10 := ⟨_, rfl⟩
      have er : (u : Int) % 10 = r := by omega
      have ev : (u : Int) / 10 = v := by omega
      have hr9 : r ≤ 9 := by omega
      have hvb : v ≤ 922337203685477580 := by omega
      have e2 : IntKind.u8.wrap (r : Int) = r := IntWalk.u8_in _ (by omega)
      have e3 : IntKind.u8.wrap (48 + (r : Int)) = 48 + r := IntWalk.u8_in _ (by omega)
      have f0 := free_at hb q
      have hq20 : q < 20 := by omega
      have hcq : ∃ x, wr.cell? ⟨w.heap.size, q, none⟩ = some x := ⟨cs[q]'(by omega), by rw [cell_at hb]; simp [hcs, hq20]⟩
      obtain ⟨x, hx⟩ := hcq
      have hub : Box (u = 10 * v + r) := ⟨by omega⟩
      have hlen : D.length ≤ 19 := by omega
      have hfig : (Dig.fig r).toNat = 48 + r := Dig.toNat_digit r (by omega)
      have hD' : Tail (wr.setCell ⟨w.heap.size, q, none⟩ (.int .u8 (48 + r))) w.heap.size q (Dig.fig r :: D) := ⟨_, set_same hb q _, by simpa using hcs, fun j b hj => by
        cases j with
        | zero =>
          simp at hj
          rw [← hj, hfig]
          simp [hcs, hq20]
        | succ j =>
          have := hD j b (by simpa using hj)
          rw [show q + (j + 1) = q + 1 + j by omega, Array.getElem?_setIfInBounds_ne (by omega)]
          exact this⟩
      replace hD' : Box (Tail (wr.setCell ⟨w.heap.size, q, none⟩ (.int .u8 (48 + r))) w.heap.size q (Dig.fig r :: D)) := ⟨hD'⟩
      clear hr hv
      by_cases hv0 : v = 0
      · have t1 : ((v : Int) == 0) = true := by rw [hv0]; rfl
        have hfin : Box (Dig.digs M = Dig.fig r :: D) := ⟨by rw [hM.out, digs_one u (by have := hub.out; omega), show u = r by have := hub.out; omega]; rfl⟩
        have hsl := slice_arr w.heap.size q hq20
        have hlq : (Dig.fig r :: D).length = 20 - q := by simp; omega
        have hcb : (convert 42 9 (.slice (some ⟨w.heap.size, q, none⟩) (20 - q) (20 - q))).run Tryd.prog (wr.setCell ⟨w.heap.size, q, none⟩ (.int .u8 (48 + r))) = .ok (.string (str (Dig.fig r :: D))) (wr.setCell ⟨w.heap.size, q, none⟩ (.int .u8 (48 + r))) := by
          obtain ⟨cs', h1, _, h2⟩ := hD'.out
          exact conv_back _ _ _ _ hlq cs' h1 h2
        have hcat : ∀ w', (Op.stringOp .add ⟨#[45]⟩ (str (Dig.fig r :: D))).run Tryd.prog w' = .ok (.string (str (45 :: Dig.fig r :: D))) w' := fun w' => run_cat [45] (Dig.fig r :: D) (by simp; omega) w'
        clear hv0 hlq
        go_wp2
        go_ret
        exact ⟨by rw [hpr.out, hfin.out]; rfl, hT.setCell (by simp) _⟩
      · have t1 : ((v : Int) == 0) = false := by rw [beq_eq_false_iff_ne]; omega
        have hfin : Box (Dig.digs M = Dig.digs v ++ Dig.fig r :: D) := ⟨by
          rw [hM.out, digs_rec u (by have := hub.out; omega), show u / 10 = v by have := hub.out; omega, show u % 10 = r by have := hub.out; omega]; simp⟩
        clear hv0
        go_wp2
        go_roundg q
        case measure => omega
        case rel => exact ⟨v, q, Dig.fig r :: D, rfl, by go_num, by omega, by omega, by simp; omega, hfin, hD'.out, by simpa using hs, hT.setCell (by simp) _⟩
end Go.Proofs.YtcpfooceadgccaaDoor
