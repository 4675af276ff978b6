/- One of the texts that lead to the theorem lexPlays.proved: the conditions stand in each theorem. -/
import Derived.Test.YthdncmagfgoboaaGreatDoorP6
import Derived.Laws.AppendOwnNone
import Derived.Handy
import Derived.Lib.Strings
import Derived.Laws.DeepStrings4
import Derived.Laws.Concat
import Derived.Laws.IdiomStrings
import Derived.Test.YthdncmagfgoboaaGreatDoorP2
import Derived.Deep.LoopGhost
import Derived.Outline
import Derived.Deep.DeepCutAuto
import Derived.StillTailTactics
set_option linter.unusedSimpArgs false
set_option linter.unusedVariables false
section
namespace Go.Proofs.YthdncmagfgoboaaGreatDoor
open Go.RowKit
structure Box (p : Prop) : Prop where
 out : p
def SlAt (w : World) (E : TypeId) (size : Nat) (v : Value) (n : Nat) (xs : List Value) (g : Option Nat) : Prop := w.ownsRow 0 E size v n xs ∧ v.ownBlock = g
structure fZ (P : Program) (T E : TypeId) (z : Value) (size bytes : Nat) : Prop where
 under : P.underlying T = some (.slice E)
 cells : z.cells.size = size
 pos : 0 < size
 bpos : 0 < bytes
 info : ∃ i, P.info? E = some i ∧ i.zero = some z ∧ i.size = size ∧ i.bytes = bytes
def gP (w : World) (size : Nat) (v : Value) (m : Nat) (news : List Value) : Prop :=
 news.length = m * size ∧ (∀ u ∈ news, u.oneCell' = true) ∧
  ((v = .slice none 0 0 ∧ m = 0) ∨ ∃ ad c, v = .slice (some ad) m c ∧ ∀ j u, news[j]? = some u → w.cell? (ad.add j) = some u)
def cK (w : World) (g g' : Option Nat) : Prop := g' = g ∨ ∃ k, g' = some k ∧ w.heap.size ≤ k
theorem SlAt.nil (w : World) (E : TypeId) (size : Nat) : SlAt w E size (.slice none 0 0) 0 [] none := ⟨World.ownsRow_nil w 0 E size, rfl⟩
theorem SlAt.len {w : World} {E : TypeId} {size : Nat} {v : Value} {n : Nat} {xs : List Value} {g : Option Nat} (h : SlAt w E size v n xs g) : xs.length = n * size := h.1.1
theorem SlAt.lt {w : World} {E : TypeId} {size : Nat} {v : Value} {n : Nat} {xs : List Value} {g : Option Nat} (h : SlAt w E size v n xs g) {k : Nat} (hk : g = some k) : k < w.heap.size :=
 (h.1.lt k (h.2.trans hk)).2
theorem SlAt.keep {w w' : World} {F : List Nat} {E : TypeId} {size : Nat} {v : Value} {n : Nat} {xs : List Value} {g : Option Nat} (h : SlAt w E size v n xs g) (ht : Touch F w w') (hg : ∀ k, g = some k → k ∉ F) : SlAt w' E size v n xs g := by
 obtain ⟨⟨h1, h2⟩, hb⟩ := h
 refine ⟨⟨h1, ?_⟩, hb⟩
 rcases h2 with hn | ⟨k, cap, cur, rfl, hk, hh, rest⟩
 · exact .inl hn
 · exact .inr ⟨k, cap, cur, rfl, hk, ht.keep hh (hg k (by simpa [Value.ownBlock] using hb.symm)), rest⟩
theorem SlAt.shape {w : World} {E : TypeId} {size : Nat} {v : Value} {n : Nat} {xs : List Value} {g : Option Nat} (h : SlAt w E size v n xs g) :
 (v = .slice none 0 0 ∧ n = 0 ∧ xs = [] ∧ g = none) ∨
 ∃ k cap cur, v = .slice (some ⟨k, 0, none⟩) n cap ∧ g = some k ∧ w.heap[k]? = some (.cells cur E (0, 0)) ∧ n ≤ cap ∧ cap ≤ 9223372036854775807 ∧ cur.size = cap * size ∧ cur.toList.take (n * size) = xs := by
 obtain ⟨⟨h1, h2⟩, hb⟩ := h
 rcases h2 with ⟨rfl, rfl⟩ | ⟨k, cap, cur, rfl, hk, hh, h3, h4, h5, h6⟩
 · exact .inl ⟨rfl, rfl, List.eq_nil_of_length_eq_zero (by simpa using h1), by simpa [Value.ownBlock] using hb.symm⟩
 · exact .inr ⟨k, cap, cur, rfl, by simpa [Value.ownBlock] using hb.symm, hh, h3, by unfold maxLen at h4; omega, h5, h6⟩
theorem SlAt.form {w : World} {E : TypeId} {size : Nat} {v : Value} {n : Nat} {xs : List Value} {g : Option Nat} (h : SlAt w E size v n xs g) :
 ∃ a cap, v = .slice a n cap ∧ n ≤ cap ∧ cap ≤ 9223372036854775807 ∧ (0 < n → ∃ k, g = some k ∧ a = some ⟨k, 0, none⟩) := by
 rcases h.shape with ⟨rfl, rfl, rfl, _⟩ | ⟨k, cap, cur, rfl, rfl, _, h3, h4, _⟩
 · exact ⟨none, 0, rfl, Nat.le_refl _, by omega, fun h => absurd h (by omega)⟩
 · exact ⟨_, cap, rfl, h3, h4, fun _ => ⟨k, rfl, rfl⟩⟩
theorem SlAt.cell {w : World} {E : TypeId} {size : Nat} {v : Value} {n : Nat} {xs : List Value} {g : Option Nat} (h : SlAt w E size v n xs g) {k : Nat} (hk : g = some k) {j : Nat} {u : Value} (hu : xs[j]? = some u) : w.cell? ⟨k, j, none⟩ = some u := by
 have := h.1.cells (h.2.trans hk) j u hu
 unfold Addr.add at this
 split at this
 · subst_vars; exact this
 · simpa using this
theorem SlAt.src {w : World} {E : TypeId} {size : Nat} {v : Value} {n : Nat} {xs : List Value} {g : Option Nat} (h : SlAt w E size v n xs g) (h1 : ∀ u ∈ xs, u.oneCell' = true) : gP w size v n xs := by
 refine ⟨h.len, h1, ?_⟩
 rcases h.shape with ⟨rfl, rfl, rfl, _⟩ | ⟨k, cap, cur, rfl, rfl, _⟩
 · exact .inl ⟨rfl, rfl⟩
 · refine .inr ⟨_, _, rfl, fun j u hu => ?_⟩
   have := h.cell rfl hu
   unfold Addr.add
   split
   · subst_vars; exact this
   · simpa using this
theorem eY {w : World} {E : TypeId} {c : Array Value} {m size : Nat} (hl : c.size = m * size) (hm : m ≤ 9223372036854775807) :
 SlAt (w.alloc (.cells c E)) E size (.slice (some ⟨w.heap.size, 0, none⟩) m m) m c.toList (some w.heap.size) := by
 refine ⟨⟨by simpa using hl, .inr ⟨_, m, c, rfl, Nat.zero_le _, aZ _ _, Nat.le_refl _, by unfold maxLen; omega, hl, ?_⟩⟩, rfl⟩
 rw [← hl, ← Array.length_toList, List.take_length]
theorem tG {w : World} {E : TypeId} {c : Array Value} {m k size : Nat} (hl : c.size = m * size) (h1 : ∀ u ∈ c.toList, u.oneCell' = true) :
 gP (w.alloc (.cells c E)) size (.slice (some ⟨w.heap.size, 0, none⟩) m k) m c.toList := by
 refine ⟨by simpa using hl, h1, .inr ⟨_, _, rfl, fun j u hu => ?_⟩⟩
 have hu' : c[j]? = some u := by simpa using hu
 have := aN (aZ w (.cells c E)) j
 rw [hu'] at this
 unfold Addr.add
 split
 · subst_vars; exact this
 · simpa using this
theorem aX {w : World} {T : TypeId} {v : Value} {c : Nat} (h1 : v.oneCell' = true) : gP (w.alloc (.cells #[v] T)) 1 (.slice (some ⟨w.heap.size, 0, none⟩) 1 c) 1 [v] := by
 refine ⟨rfl, by simpa using h1, .inr ⟨_, _, rfl, fun j u hu => ?_⟩⟩
 match j, hu with
 | 0, hu => simp at hu; subst hu; exact aN (aZ w (.cells #[v] T)) 0
theorem pJ {w : World} {T : TypeId} {c : Array Value} {f : Nat × Nat} {b m k size : Nat} (hb : w.heap[b]? = some (.cells c T f)) (hl : c.size = m * size) (h1 : ∀ u ∈ c.toList, u.oneCell' = true) : gP w size (.slice (some ⟨b, 0, none⟩) m k) m c.toList := by
 refine ⟨by simpa using hl, h1, .inr ⟨_, _, rfl, fun j u hu => ?_⟩⟩
 have hu' : c[j]? = some u := by simpa using hu
 unfold Addr.add
 split
 · subst_vars; simp [World.cell?, hb, hu']
 · simp [World.cell?, hb, hu']
section
variable {P : Program}
theorem lZ {T ty E : TypeId} {z : Value} {size bytes : Nat} (hT : fZ P T E z size bytes) {w : World} {v : Value} {n : Nat} {xs : List Value} {g : Option Nat} (h : SlAt w E size v n xs g)
 {s : Value} {m : Nat} {news : List Value} (hs : gP w size s m news) (hb : (n + m) * bytes ≤ 140737488355328) :
 ∃ v' w' g', (Builtin.append_ #[T, T] ty #[v, s]).run P w = .ok v' w' ∧ SlAt w' E size v' (n + m) (xs ++ news) g' ∧ Touch g.toList w w' ∧ cK w g g' := by
 obtain ⟨hu, hz, hp, hbp, i, hi, hiz, his, hib⟩ := hT
 obtain ⟨hl, h1, hs⟩ := hs
 have hnm : n + m ≤ (n + m) * bytes := Nat.le_mul_of_pos_right _ hbp
 have h63 : n + m ≤ maxLen := by simp only [maxLen]; omega
 rcases hs with ⟨rfl, rfl⟩ | ⟨ad, c, rfl, hc⟩
 · have hn : news = [] := List.eq_nil_of_length_eq_zero (by simpa using hl)
   subst hn
   subst his
   exact ⟨v, w, g, run_append_owned_none (P := P) (w := w) 0 T ty E i i.size hu hi v n xs h.1, by simpa using h, Touch.refl _ _, .inl rfl⟩
 · have touch : ∀ w', w.grownBy w' v.ownBlock → Touch g.toList w w' := fun w' hg => ⟨hg.os, hg.tape, hg.output, hg.size, fun k hk hf => hg.block k hk (by rw [h.2]; rintro rfl; simp at hf)⟩
   rcases h.shape with ⟨rfl, rfl, rfl, rfl⟩ | ⟨k, cap, cur, rfl, rfl, hk, hle, hcm, hcs, htk⟩
   · obtain ⟨v', w', hr, ho, hg, _⟩ := run_append_own (P := P) w w.heap.size T ty E i z size bytes hu hi hiz his hib hz hp (.slice none 0 0) 0 [] (World.ownsRow_nil w _ E size) ad m c news hl hc h1 h63 hb (Nat.le_refl _)
     refine ⟨v', w', v'.ownBlock, hr, ⟨⟨ho.1, ?_⟩, rfl⟩, touch w' hg, ?_⟩
     · rcases ho.2 with hn | ⟨k, cap, cur, hv, _, rest⟩
       · exact .inl hn
       · exact .inr ⟨k, cap, cur, hv, Nat.zero_le _, rest⟩
     · cases hv : v'.ownBlock with
       | none => exact .inl rfl
       | some k => exact .inr ⟨k, rfl, (ho.lt k hv).1⟩
   · obtain ⟨v', w', hr, ho, hg, _⟩ := run_append_own (P := P) w 0 T ty E i z size bytes hu hi hiz his hib hz hp _ n xs h.1 ad m c news hl hc h1 h63 hb (Nat.zero_le _)
     refine ⟨v', w', v'.ownBlock, hr, ⟨ho, rfl⟩, touch w' hg, ?_⟩
     by_cases hroom : n + m ≤ cap
     · have hfit : n * i.size + news.length ≤ cur.size := by rw [hl, hcs, his, ← Nat.add_mul]; exact Nat.mul_le_mul_right _ hroom
       have hr' := run_append_room (P := P) w T ty E i hu hi k n cap cur hk ad m c news (by rw [his]; exact hl) hc h1 hroom hfit
       rw [hr] at hr'
       injection hr' with e1 e2
       rw [e1]
       exact .inl rfl
     · have hr' := run_append_grow (P := P) w T ty E i z hu hi hiz ⟨k, 0, none⟩ n cap xs (by rw [his]; exact h.len) (h.1.cells (g := k) rfl) ad m c news (by rw [his]; exact hl) hc (by omega) (by unfold maxLen at h63; omega) (growslice_fits (by omega) (by rw [hib]; exact hb))
       rw [hr] at hr'
       injection hr' with e1 e2
       rw [e1]
       exact .inr ⟨_, rfl, Nat.le_refl _⟩
theorem gW {T E : TypeId} {z : Value} {size bytes : Nat} (hT : fZ P T E z size bytes) {w : World} {o : Oper} {a : Act} {K : Act → World → Prop} {Q : Exit → Act → World → Prop} (s x : Operand)
 (ho : o.op = .call { callee := .builtin .append, args := #[s, x], argTypes := #[T, T] })
 {v : Value} {n : Nat} {xs : List Value} {g : Option Nat} (hs : a.eval s = v) (h : SlAt w E size v n xs g)
 {sv : Value} {m : Nat} {news : List Value} (hx : a.eval x = sv) (hsrc : gP w size sv m news) (hb : (n + m) * bytes ≤ 140737488355328)
 (hk : ∀ ad' c' w' g', SlAt w' E size (.slice ad' (n + m) c') (n + m) (xs ++ news) g' → Touch g.toList w w' → cK w g g' → K (a.put o.dst (.slice ad' (n + m) c')) w') : o.wp P a w K Q := by
 obtain ⟨v', w', g', hr, h2, h3, h4⟩ := lZ (ty := o.type) hT h hsrc hb
 obtain ⟨ad', c', rfl, _⟩ := h2.form
 unfold Oper.wp execOp
 simp only [ho, resolve, invoke, builtin, Sem.run_bind, Sem.run_pure, Result.andThen_ok, List.map_toArray, List.map_cons, List.map_nil, hs, hx, hr]
 exact hk ad' c' w' g' h2 h3 h4
theorem kO {T E : TypeId} {z : Value} {size bytes : Nat} (hT : fZ P T E z size bytes) {ops : Array Oper} {w : World} {o : Oper} {a : Act} {K : Act → World → Prop} {Q : Exit → Act → World → Prop} {X : Prop} (hgd : o.guard = none) (s x : Operand)
 (ho : o.op = .call { callee := .builtin .append, args := #[s, x], argTypes := #[T, T] })
 {v : Value} {n : Nat} {xs : List Value} {g : Option Nat} (hs : a.eval s = v) (h : SlAt w E size v n xs g)
 {sv : Value} {m : Nat} {news : List Value} (hx : a.eval x = sv) (hsrc : gP w size sv m news) (hb : (n + m) * bytes ≤ 140737488355328)
 (hk : ∀ ad' c' w' g', SlAt w' E size (.slice ad' (n + m) c') (n + m) (xs ++ news) g' → Touch g.toList w w' → cK w g g' → K (a.put o.dst (.slice ad' (n + m) c')) w') :
 if Region.wanted o (yielded ops a.tmps) = true then Oper.wp P o a w K Q else X := by
 rw [if_pos (by simp [Region.wanted, hgd])]
 exact gW hT s x ho hs h hx hsrc hb hk
theorem aJ {T E : TypeId} {z : Value} {size bytes : Nat} (hT : fZ P T E z size bytes) {w : World} {ops : Array Oper} {rest : List Oper} {o : Oper} {a : Act} {Q : Exit → Act → World → Prop} (hgd : o.guard = none) (s x : Operand)
 (ho : o.op = .call { callee := .builtin .append, args := #[s, x], argTypes := #[T, T] })
 {v : Value} {n : Nat} {xs : List Value} {g : Option Nat} (hs : a.eval s = v) (h : SlAt w E size v n xs g)
 {sv : Value} {m : Nat} {news : List Value} (hx : a.eval x = sv) (hsrc : gP w size sv m news) (hb : (n + m) * bytes ≤ 140737488355328)
 (hk : ∀ ad' c' w' g', SlAt w' E size (.slice ad' (n + m) c') (n + m) (xs ++ news) g' → Touch g.toList w w' → cK w g g' → wpList P ops Q rest (a.put o.dst (.slice ad' (n + m) c')) w') : wpList P ops Q (o :: rest) a w :=
 wpList_plain hgd fun _ hK => gW hT s x ho hs h hx hsrc hb fun ad' c' w' g' h2 h3 h4 => hK _ _ (hk ad' c' w' g' h2 h3 h4)
end
end Go.Proofs.YthdncmagfgoboaaGreatDoor
end
section
namespace Go.Proofs.YthdncmagfgoboaaGreatDoor
open Go.RowKit
def str (l : List UInt8) : ByteArray := ⟨l.toArray⟩
theorem vF (s : ByteArray) : s = str s.data.toList := (Lib.mk_data s).symm
theorem aR (l : List UInt8) : (str l).size = l.length := rfl
theorem cM (l : List UInt8) : (str l).data.toList = l := rfl
theorem bI (l : List UInt8) : (str l).toList = l := ByteArray.toList_mk l
theorem kN (a b : List UInt8) : str a ++ str b = str (a ++ b) := ByteArray.mk_append_mk a b
theorem cW (l : List UInt8) (a b : Nat) : (str l).extract a b = str ((l.drop a).take (b - a)) := Lib.extract_eq _ _ _
theorem sQ (l : List UInt8) (i : Nat) (hi : i < (str l).size) : (str l)[i] = l[i]'hi := by
 rfl
section
variable {P : Program} {T : TypeId} (hT : P.underlying T = some .string)
include hT
theorem cI (l : List UInt8) (k : IntKind) (i : Nat) (b : UInt8) (h : l[i]? = some b) (w : World) :
 (Instr.index T (.string (str l)) (.int k i)).run P w = .ok (.int .u8 b.toNat) w := by
 obtain ⟨hi, hb⟩ := List.getElem?_eq_some_iff.1 h
 rw [run_index_string w T _ k i hT, dif_pos ⟨by omega, by rw [aR]; omega⟩]
 have : (str l)[(i : Int).toNat]'(by rw [aR]; omega) = b := by rw [sQ]; simpa using hb
 rw [this]
theorem iA (l : List UInt8) (k : IntKind) (i : Nat) (h : i ≤ l.length) (w : World) :
 (Instr.slice T (.string (str l)) (some (.int k i)) none none).run P w = .ok (.string (str (l.drop i))) w := by
 rw [run_slice_string_from_if w T _ k i hT, if_pos ⟨by omega, by rw [aR]; omega⟩, cW]
 have : (l.drop (i : Int).toNat).take ((str l).size - (i : Int).toNat) = l.drop i := by
  rw [aR]
  exact List.take_of_length_le (by simp)
 rw [this]
theorem nT (l : List UInt8) (k : IntKind) (j : Nat) (h : j ≤ l.length) (w : World) :
 (Instr.slice T (.string (str l)) none (some (.int k j)) none).run P w = .ok (.string (str (l.take j))) w := by
 rw [run_slice_string_to_if w T _ k j hT, if_pos ⟨by omega, by rw [aR]; omega⟩, cW]
 rfl
theorem sS (l : List UInt8) (k k' : IntKind) (i j : Nat) (h : i ≤ j) (h' : j ≤ l.length) (w : World) :
 (Instr.slice T (.string (str l)) (some (.int k i)) (some (.int k' j)) none).run P w = .ok (.string (str ((l.drop i).take (j - i)))) w := by
 rw [run_slice_string_if w T _ k k' i j hT, if_pos ⟨by omega, by rw [aR]; omega⟩, if_pos ⟨by omega, by omega⟩, cW]
 rfl
end
theorem kD {P : Program} (a b : List UInt8) (h : a.length + b.length ≤ 9223372036854775807) (w : World) : (Op.stringOp .add (str a) (str b)).run P w = .ok (.string (str (a ++ b))) w := by
 rw [run_string_add_sum w _ _ (by rw [aR, aR]; omega), kN]
end Go.Proofs.YthdncmagfgoboaaGreatDoor
end
section
namespace Go.Proofs.YthdncmagfgoboaaGreatDoor
open Go.RowKit
set_option maxRecDepth 100000
set_option maxHeartbeats 4000000
abbrev dec (x : Dig.Dec) : Value := .agg #[.bool x.neg, .string (str x.d), .int .i64 x.e]
theorem rO (s : Bool) (d : ByteArray) (e : Int) (w : World) : (Instr.field 116 (.agg #[.bool s, .string d, .int .i64 e]) 2).run Tryz.prog w = .ok (.int .i64 e) w := by kernel_rfl
theorem sR (l : List UInt8) (h : l ≠ []) : ∃ m b, l = m ++ [b] := ⟨l.dropLast, l.getLast h, (List.dropLast_concat_getLast h).symm⟩
theorem iS (x : Dig.Dec) (w : World) (hl : x.d.length ≤ 1000000000000) (he : x.e ≤ 1000000000000) (he' : -1000000000000 ≤ x.e) :
 Calls Tryz.prog 94 #[dec x] w fun e w' => e = .returned (dec (Dig.norm x)) ∧ Touch [] w w' := by
 obtain ⟨sg, d, E⟩ := x
 go_enter Tryz.func94, Tryz.ntmps94
 go_wp2
 have hw : Touch [] w ((w.alloc (Obj.cells #[Value.bool sg, Value.string (str d), Value.int IntKind.i64 E] 116)).alloc (Obj.cells #[Value.bool false, Value.string ⟨#[]⟩, Value.int IntKind.i64 0] 116)) := ((Touch.refl _ _).alloc _).alloc _
 go_loopg [] d.length (fun k wr => ∃ l, l.length ≤ k ∧ Dig.cutL l = Dig.cutL d ∧ l.length ≤ d.length ∧ wr.heap[w.heap.size]? = some (.cells #[.bool sg, .string (str l), .int .i64 E] 116) ∧ wr.heap[w.heap.size + 1]? = some (.cells #[.bool false, .string ⟨#[]⟩, .int .i64 0] 116) ∧ w.heap.size + 2 ≤ wr.heap.size ∧ Touch [] w wr)
 case atStart => exact ⟨d, Nat.le_refl _, rfl, Nat.le_refl _, aW (aZ _ _) _, by have := aZ (w.alloc (Obj.cells #[Value.bool sg, Value.string (str d), Value.int IntKind.i64 E] 116)) (Obj.cells #[Value.bool false, Value.string ⟨#[]⟩, Value.int IntKind.i64 0] 116); simpa using this, by simp, hw⟩
 case round =>
  clear hw
  obtain ⟨l, hk, hcut, hle, hB, hR, hs, hT⟩ := hrel
  have c1 := aN hB 1
  have f1 := aQ hB 1
  have hbl : w.heap.size < wr.heap.size := by omega
  simp at c1
  have sz := aR l
  by_cases h0 : l = []
  · have t0 : ¬ 0 < l.length := by rw [h0]; simp
    have hhead : l.head? ≠ some 48 := by rw [h0]; simp
    clear h0
    go_wp2
    obtain ⟨L, hLe⟩ : ∃ L, L = Dig.cutL d := ⟨_, rfl⟩
    have hL : l = L := hLe ▸ hcut ▸ (Dig.cutL_of_head _ hhead).symm
    have hcx : Dig.cutR L = Dig.core d := by rw [hLe]; rfl
    have hLb : Box (L = Dig.cutL d) := ⟨hLe⟩
    subst hL
    clear hLe hcut hhead
    have hE0 : IntKind.i64.wrap E = E := IntWalk.i64_in _ (by omega)
    go_loopg [] l.length (fun k wi => ∃ (m : List UInt8) (e : Int), m.length ≤ k ∧ k ≤ l.length ∧ Dig.cutR m = Dig.cutR l ∧ Box (e + m.length = E + l.length ∧ m.length ≤ l.length) ∧ wi.heap[w.heap.size]? = some (.cells #[.bool sg, .string (str m), .int .i64 e] 116) ∧ wi.heap[w.heap.size + 1]? = some (.cells #[.bool false, .string ⟨#[]⟩, .int .i64 0] 116) ∧ w.heap.size + 2 ≤ wi.heap.size ∧ Touch [] w wi)
    case atStart => exact ⟨l, E, Nat.le_refl _, Nat.le_refl _, rfl, ⟨rfl, Nat.le_refl _⟩, hB, hR, hs, hT⟩
    case round =>
     clear hB hR hs hT c1 f1 hbl sz t0
     obtain ⟨m, e, hk, hkl, hcut, hbox, hB, hR, hs, hT⟩ := hrel
     have ⟨c0,c1,c2⟩ := cs3 hB
     have f1 := aQ hB 1
     have f2 := aQ hB 2
     have hbl : w.heap.size < wr.heap.size := by omega
     have ⟨r0,r1,r2⟩ := cs3 hR
     have ⟨g0,g1,g2⟩ := fs3 hR
     have hbr : w.heap.size + 1 < wr.heap.size := by omega
     try simp at c0 c1 c2 r0 r1 r2
     have sz := aR m
     by_cases h0 : m = []
     · have t0 : ¬ 0 < m.length := by rw [h0]; simp
       have t2 : ((m.length : Int) == 0) = true := by rw [h0]; rfl
       have h0b : Box (m = []) := ⟨h0⟩
       clear h0
       go_wp2
       have h0 := h0b.out
       have hn : Dig.norm ⟨sg, d, E⟩ = Dig.zero := by
        unfold Dig.norm
        rw [if_pos (by rw [← hcx, ← hcut, h0]; rfl)]
       rw [hn]
       exact bodyPost_ret (v := dec Dig.zero) (by simp [results, Tryz.results94, go_sem, Dig.zero, str, r0, r1, r2]) rfl ⟨rfl, ((hT.setCell (by simp) _).setCell (by simp) _).setCell (by simp) _⟩
     · obtain ⟨t, c, hct⟩ := sR m h0
       have hln : m.length = t.length + 1 := by rw [hct]; simp
       have t0 : 0 < m.length := by omega
       have t2 : ((m.length : Int) == 0) = false := by rw [hct]; simp; omega
       have i0 : ∀ w, (Instr.index 9 (.string (str m)) (.int .i64 ((m.length : Int) - 1))).run Tryz.prog w = .ok (.int .u8 c.toNat) w := fun w => by
        have := cI Tryz.underlying9 m .i64 t.length c (by rw [hct]; simp) w
        rw [show ((t.length : Nat) : Int) = (m.length : Int) - 1 by omega] at this
        exact this
       have i1 : ∀ w, (Instr.slice 9 (.string (str m)) none (some (.int .i64 ((m.length : Int) - 1))) none).run Tryz.prog w = .ok (.string (str t)) w := fun w => by
        have := nT Tryz.underlying9 m .i64 t.length (by omega) w
        rw [show ((t.length : Nat) : Int) = (m.length : Int) - 1 by omega, show m.take t.length = t by rw [hct]; simp] at this
        exact this
       have hb2 := hbox.out
       have w1 : IntKind.i64.wrap ((m.length : Int) - 1) = (m.length : Int) - 1 := IntWalk.i64_in _ (by omega)
       have w2 : IntKind.i64.wrap (e + 1) = e + 1 := IntWalk.i64_in _ (by omega)
       clear hb2
       have bx : Box (m = t ++ [c]) := ⟨hct⟩
       have bl : Box (m.length = t.length + 1) := ⟨hln⟩
       by_cases h1 : c = 48
       · have t1 : ((c.toNat : Int) == 48) = true := by rw [h1]; rfl
         have bc : Box (c = 48) := ⟨h1⟩
         clear hct h1 h0 hln
         go_wp2
         go_roundg t.length
         case measure => have := bl.out; omega
         case rel =>
          have hm := bx.out
          have hml := bl.out
          have hb2 := hbox.out
          refine ⟨t, e + 1, Nat.le_refl _, by omega, ?_, ⟨by omega⟩, aF (aF hB 1 _) 2 _, aU (aU hR (by simp) _) (by simp) _, by simpa using hs, (hT.setCell (by simp) _).setCell (by simp) _⟩
          rw [← hcut, hm, bc.out, Dig.cutR_snoc]
       · have t1 : ((c.toNat : Int) == 48) = false := by
          rw [beq_eq_false_iff_ne]
          intro e
          exact h1 (UInt8.toNat_inj.1 (by have : (48 : UInt8).toNat = 48 := rfl; omega))
         clear hct h0 hln
         have bc : Box (c ≠ 48) := ⟨h1⟩
         clear h1
         go_wp2
         have hm := bx.out
         have hb2 := hbox.out
         have hcm : m = Dig.core d := by rw [← hcx, ← hcut, hm, Dig.cutR_of_last _ _ bc.out]
         have hn : Dig.norm ⟨sg, d, E⟩ = ⟨sg, m, e⟩ := by
          unfold Dig.norm
          rw [if_neg (by rw [← hcm]; intro e0; rw [e0] at t0; exact absurd t0 (by simp)), ← hcm, ← hLb.out]
          have : E + ((l.length : Int) - (m.length : Int)) = e := by omega
          rw [this]
         rw [hn]
         exact bodyPost_ret (v := dec ⟨sg, m, e⟩) (by simp [results, Tryz.results94, go_sem, r0, r1, r2]) rfl ⟨rfl, ((hT.setCell (by simp) _).setCell (by simp) _).setCell (by simp) _⟩
  · obtain ⟨c, t, hct⟩ : ∃ c t, l = c :: t := by cases l with | nil => exact absurd rfl h0 | cons c t => exact ⟨c, t, rfl⟩
    have t0 : 0 < l.length := by rw [hct]; simp
    have i0 : ∀ w, (Instr.index 9 (.string (str l)) (.int .i64 0)).run Tryz.prog w = .ok (.int .u8 c.toNat) w := fun w => cI Tryz.underlying9 l .i64 0 c (by rw [hct]; rfl) w
    have i1 : ∀ w, (Instr.slice 9 (.string (str l)) (some (.int .i64 1)) none none).run Tryz.prog w = .ok (.string (str t)) w := fun w => by
     have := iA Tryz.underlying9 l .i64 1 (by rw [hct]; simp) w
     rw [show l.drop 1 = t by rw [hct]; rfl] at this
     exact this
    have bx : Box (l = c :: t) := ⟨hct⟩
    by_cases h1 : c = 48
    · have t1 : ((c.toNat : Int) == 48) = true := by rw [h1]; rfl
      have bc : Box (c = 48) := ⟨h1⟩
      clear hct h1 h0
      go_wp2
      go_roundg t.length
      case measure => have := bx.out; rw [this] at hk; simp at hk; omega
      case rel =>
       have := bx.out
       subst this
       refine ⟨t, Nat.le_refl _, ?_, by simp at hle; omega, aF hB 1 _, aU hR (by simp) _, by simpa using hs, hT.setCell (by simp) _⟩
       rw [← hcut, bc.out]
       rfl
    · have t1 : ((c.toNat : Int) == 48) = false := by
       rw [beq_eq_false_iff_ne]
       intro e
       exact h1 (UInt8.toNat_inj.1 (by have : (48 : UInt8).toNat = 48 := rfl; omega))
      clear hct h0
      have bc : Box (c ≠ 48) := ⟨h1⟩
      clear h1
      go_wp2
      have hhead : l.head? ≠ some 48 := by rw [bx.out]; simpa using bc.out
      clear i0 i1 bx t1 bc
      obtain ⟨L, hLe⟩ : ∃ L, L = Dig.cutL d := ⟨_, rfl⟩
      have hL : l = L := hLe ▸ hcut ▸ (Dig.cutL_of_head _ hhead).symm
      have hcx : Dig.cutR L = Dig.core d := by rw [hLe]; rfl
      have hLb : Box (L = Dig.cutL d) := ⟨hLe⟩
      subst hL
      clear hLe hcut hhead
      have hE0 : IntKind.i64.wrap E = E := IntWalk.i64_in _ (by omega)
      go_loopg [] l.length (fun k wi => ∃ (m : List UInt8) (e : Int), m.length ≤ k ∧ k ≤ l.length ∧ Dig.cutR m = Dig.cutR l ∧ Box (e + m.length = E + l.length ∧ m.length ≤ l.length) ∧ wi.heap[w.heap.size]? = some (.cells #[.bool sg, .string (str m), .int .i64 e] 116) ∧ wi.heap[w.heap.size + 1]? = some (.cells #[.bool false, .string ⟨#[]⟩, .int .i64 0] 116) ∧ w.heap.size + 2 ≤ wi.heap.size ∧ Touch [] w wi)
      case atStart => exact ⟨l, E, Nat.le_refl _, Nat.le_refl _, rfl, ⟨rfl, Nat.le_refl _⟩, hB, hR, hs, hT⟩
      case round =>
       clear hB hR hs hT c1 f1 hbl sz t0
       obtain ⟨m, e, hk, hkl, hcut, hbox, hB, hR, hs, hT⟩ := hrel
       have ⟨c0,c1,c2⟩ := cs3 hB
       have f1 := aQ hB 1
       have f2 := aQ hB 2
       have hbl : w.heap.size < wr.heap.size := by omega
       have ⟨r0,r1,r2⟩ := cs3 hR
       have ⟨g0,g1,g2⟩ := fs3 hR
       have hbr : w.heap.size + 1 < wr.heap.size := by omega
       try simp at c0 c1 c2 r0 r1 r2
       have sz := aR m
       by_cases h0 : m = []
       · have t0 : ¬ 0 < m.length := by rw [h0]; simp
         have t2 : ((m.length : Int) == 0) = true := by rw [h0]; rfl
         have h0b : Box (m = []) := ⟨h0⟩
         clear h0
         go_wp2
         have h0 := h0b.out
         have hn : Dig.norm ⟨sg, d, E⟩ = Dig.zero := by
          unfold Dig.norm
          rw [if_pos (by rw [← hcx, ← hcut, h0]; rfl)]
         rw [hn]
         exact bodyPost_ret (v := dec Dig.zero) (by simp [results, Tryz.results94, go_sem, Dig.zero, str, r0, r1, r2]) rfl ⟨rfl, ((hT.setCell (by simp) _).setCell (by simp) _).setCell (by simp) _⟩
       · obtain ⟨t, c, hct⟩ := sR m h0
         have hln : m.length = t.length + 1 := by rw [hct]; simp
         have t0 : 0 < m.length := by omega
         have t2 : ((m.length : Int) == 0) = false := by rw [hct]; simp; omega
         have i0 : ∀ w, (Instr.index 9 (.string (str m)) (.int .i64 ((m.length : Int) - 1))).run Tryz.prog w = .ok (.int .u8 c.toNat) w := fun w => by
          have := cI Tryz.underlying9 m .i64 t.length c (by rw [hct]; simp) w
          rw [show ((t.length : Nat) : Int) = (m.length : Int) - 1 by omega] at this
          exact this
         have i1 : ∀ w, (Instr.slice 9 (.string (str m)) none (some (.int .i64 ((m.length : Int) - 1))) none).run Tryz.prog w = .ok (.string (str t)) w := fun w => by
          have := nT Tryz.underlying9 m .i64 t.length (by omega) w
          rw [show ((t.length : Nat) : Int) = (m.length : Int) - 1 by omega, show m.take t.length = t by rw [hct]; simp] at this
          exact this
         have hb2 := hbox.out
         have w1 : IntKind.i64.wrap ((m.length : Int) - 1) = (m.length : Int) - 1 := IntWalk.i64_in _ (by omega)
         have w2 : IntKind.i64.wrap (e + 1) = e + 1 := IntWalk.i64_in _ (by omega)
         clear hb2
         have bx : Box (m = t ++ [c]) := ⟨hct⟩
         have bl : Box (m.length = t.length + 1) := ⟨hln⟩
         by_cases h1 : c = 48
         · have t1 : ((c.toNat : Int) == 48) = true := by rw [h1]; rfl
           have bc : Box (c = 48) := ⟨h1⟩
           clear hct h1 h0 hln
           go_wp2
           go_roundg t.length
           case measure => have := bl.out; omega
           case rel =>
            have hm := bx.out
            have hml := bl.out
            have hb2 := hbox.out
            refine ⟨t, e + 1, Nat.le_refl _, by omega, ?_, ⟨by omega⟩, aF (aF hB 1 _) 2 _, aU (aU hR (by simp) _) (by simp) _, by simpa using hs, (hT.setCell (by simp) _).setCell (by simp) _⟩
            rw [← hcut, hm, bc.out, Dig.cutR_snoc]
         · have t1 : ((c.toNat : Int) == 48) = false := by
            rw [beq_eq_false_iff_ne]
            intro e
            exact h1 (UInt8.toNat_inj.1 (by have : (48 : UInt8).toNat = 48 := rfl; omega))
           clear hct h0 hln
           have bc : Box (c ≠ 48) := ⟨h1⟩
           clear h1
           go_wp2
           have hm := bx.out
           have hb2 := hbox.out
           have hcm : m = Dig.core d := by rw [← hcx, ← hcut, hm, Dig.cutR_of_last _ _ bc.out]
           have hn : Dig.norm ⟨sg, d, E⟩ = ⟨sg, m, e⟩ := by
            unfold Dig.norm
            rw [if_neg (by rw [← hcm]; intro e0; rw [e0] at t0; exact absurd t0 (by simp)), ← hcm, ← hLb.out]
            have : E + ((l.length : Int) - (m.length : Int)) = e := by omega
            rw [this]
           rw [hn]
           exact bodyPost_ret (v := dec ⟨sg, m, e⟩) (by simp [results, Tryz.results94, go_sem, r0, r1, r2]) rfl ⟨rfl, ((hT.setCell (by simp) _).setCell (by simp) _).setCell (by simp) _⟩
end Go.Proofs.YthdncmagfgoboaaGreatDoor
end
section
namespace Go.Proofs.YthdncmagfgoboaaGreatDoor
open Go.RowKit
set_option maxRecDepth 100000
set_option maxHeartbeats 4000000
theorem kQ (l : List UInt8) (i : Nat) (w : World) (hi : i ≤ l.length) (hl : l.length ≤ 1000000000000) :
 Calls Tryz.prog 96 #[.string (str l), .int .i64 i] w fun e w' => e = .returned (.int .i64 (Dig.run (l.drop i))) ∧ Touch [] w w' := by
 have sz := aR l
 go_enter Tryz.func96, Tryz.ntmps96
 go_wp2
 obtain ⟨r, hr0⟩ : ∃ r, r = Dig.run (l.drop i) := ⟨_, rfl⟩
 have hri : i + r ≤ l.length := by have := Dig.run_le (l.drop i); rw [List.length_drop] at this; omega
 have hr : Box (r = Dig.run (l.drop i)) := ⟨hr0⟩
 clear hr0
 go_loopg [5] r (fun k v wr => ∃ n : Nat, n + k = r ∧ v = .int .i64 n ∧ Touch [] w wr)
 case atStart => exact ⟨0, by omega, rfl, Touch.refl _ _⟩
 case round =>
  obtain ⟨n, hk, rfl, hT⟩ := hrel
  have hkb : Box (n + gk = r) := ⟨hk⟩
  have hb : i + n ≤ l.length := by omega
  clear hk
  have hix : ∀ b, (l.drop i)[n]? = some b → (i + n < l.length ∧ ∀ w, (Instr.index 9 (.string (str l)) (.int .i64 ((i : Int) + n))).run Tryz.prog w = .ok (.int .u8 b.toNat) w) := fun b h1 => by
   rw [List.getElem?_drop] at h1
   refine ⟨(List.getElem?_eq_some_iff.1 h1).1, fun w => ?_⟩
   have := cI Tryz.underlying9 l .i64 _ b h1 w
   rw [show ((i + n : Nat) : Int) = (i : Int) + n by omega] at this
   exact this
  rcases Nat.eq_zero_or_pos gk with h0 | h0
  · subst h0
    have hn : Box (n = r) := ⟨hkb.out⟩
    have he : (l.drop i)[n]? = none ∨ ∃ b, (l.drop i)[n]? = some b ∧ (¬ 48 ≤ b.toNat ∨ (48 ≤ b.toNat ∧ ¬ b.toNat ≤ 57)) := by
     have := Dig.run_end (l.drop i)
     rw [← hr.out, ← hn.out] at this
     exact this
    clear hkb
    rcases he with h1 | ⟨b, h1, h2⟩
    · have t0 : ¬ i + n < l.length := by
       rw [List.getElem?_eq_none_iff, List.length_drop] at h1
       omega
      clear h1 hix
      go_wp2
      go_ret
      exact ⟨by rw [← hr.out, ← hn.out]; rfl, hT⟩
    · obtain ⟨t0, i0⟩ := hix b h1
      clear h1 hix
      rcases h2 with h2 | ⟨h2, h3⟩
      · go_wp2
        go_ret
        exact ⟨by rw [← hr.out, ← hn.out]; rfl, hT⟩
      · go_wp2
        go_ret
        exact ⟨by rw [← hr.out, ← hn.out]; rfl, hT⟩
  · obtain ⟨b, h1, h2, h3⟩ := Dig.run_lt (l.drop i) n (by have := hkb.out; have := hr.out; omega)
    obtain ⟨t0, i0⟩ := hix b h1
    clear h1 hix
    go_wp2
    go_roundg (gk - 1)
    case measure => omega
    case rel => exact ⟨n + 1, by have := hkb.out; omega, by simp, hT⟩
theorem rN (x : Dig.Dec) (w : World) (hl : x.d.length ≤ 1000000000000) (he : x.e ≤ 1000000000000) (he' : -1000000000000 ≤ x.e) :
 Calls Tryz.prog 65 #[dec x] w fun e w' => e = .returned (.bool (Dig.whole x)) ∧ Touch [] w w' := by
 go_enter Tryz.func65, Tryz.ntmps65
 go_wp2_with fail
 refine (iS x _ hl he he').mono ?_
 rintro e w1 ⟨rfl, ht1⟩
 try go_simp
 have hf := rO
 simp only [dec]
 go_wp2
 go_ret
 exact ⟨rfl, ((Touch.refl _ _).alloc _).trans ht1⟩
end Go.Proofs.YthdncmagfgoboaaGreatDoor
end
section
namespace Go.Proofs.YthdncmagfgoboaaGreatDoor
open Go.RowKit
theorem fL (w : World) (o o' : Obj) : ((w.alloc o).alloc o').heap[w.heap.size + 1]? = some o' := by
 have := aZ (w.alloc o) o'
 simpa using this
def RSt (w wx : World) (sg : Bool) (D : List UInt8) (E : Int) : Prop := wx.heap[w.heap.size]? = some (.cells #[.bool false, .string ⟨#[]⟩, .int .i64 0] 116) ∧ wx.heap[w.heap.size + 1]? = some (.cells #[.bool sg, .string (str D), .int .i64 E] 116) ∧ w.heap.size + 2 ≤ wx.heap.size ∧ Touch [] w wx
theorem fD (c : UInt8) (k : Nat) (hk : k < 256) : ((c.toNat : Int) == (k : Int)) = decide (c = UInt8.ofNat k) := by
 rw [Bool.eq_iff_iff, beq_iff_eq, decide_eq_true_eq]
 constructor
 · intro e
   apply UInt8.toNat_inj.1
   rw [UInt8.toNat_ofNat']
   omega
 · intro e
   rw [e, UInt8.toNat_ofNat']
   omega
theorem byte_43 (c : UInt8) : ((c.toNat : Int) == 43) = decide (c = 43) := fD c 43 (by decide)
theorem pA (c : UInt8) : ((c.toNat : Int) == 45) = decide (c = 45) := fD c 45 (by decide)
theorem byte_46 (c : UInt8) : ((c.toNat : Int) == 46) = decide (c = 46) := fD c 46 (by decide)
theorem oZ (c : UInt8) : ((c.toNat : Int) == 48) = decide (c = 48) := fD c 48 (by decide)
theorem oY (c : UInt8) : ((c.toNat : Int) == 69) = decide (c = 69) := fD c 69 (by decide)
theorem lT (c : UInt8) : ((c.toNat : Int) == 101) = decide (c = 101) := fD c 101 (by decide)
end Go.Proofs.YthdncmagfgoboaaGreatDoor
end
section
namespace Go.Proofs.YthdncmagfgoboaaGreatDoor
open Go.RowKit
set_option maxRecDepth 100000
set_option maxHeartbeats 4000000
theorem kE (s : Bool) (d : List UInt8) (e : Int) (y : Dig.Dec) (w : World) (hy : Box (y = Dig.norm ⟨s, d, e⟩)) (hl : d.length ≤ 1000000000000) (he : e ≤ 1000000000000) (he' : -1000000000000 ≤ e) :
 Calls Tryz.prog 94 #[.agg #[.bool s, .string (str d), .int .i64 e]] w fun r w' => r = .returned (.agg #[.bool y.neg, .string (str y.d), .int .i64 y.e]) ∧ Touch [] w w' := by
 rw [hy.out]
 exact iS ⟨s, d, e⟩ w hl he he'
theorem pS (x : Dig.Dec) (w : World) (hl : x.d.length ≤ 1000000000000) (he : x.e ≤ 1000000000000) (he' : -1000000000000 ≤ x.e) (hd : x.d.all Dig.dig = true) :
 Calls Tryz.prog 69 #[dec x] w fun e w' => e = .returned (.tuple #[.int .i64 (Dig.int x).1, .int .i64 (Dig.int x).2]) ∧ Touch [] w w' := by
 obtain ⟨sg, d, E⟩ := x
 obtain ⟨y, hy⟩ : ∃ y, y = Dig.norm ⟨sg, d, E⟩ := ⟨_, rfl⟩
 have hyd : y.d.all Dig.dig = true := by rw [hy, Dig.norm_d]; exact Dig.core_all d hd
 have hyl : y.d.length ≤ 1000000000000 := by rw [hy, Dig.norm_d]; exact Nat.le_trans (Dig.core_le d) hl
 have hyi : Box (Dig.int ⟨sg, d, E⟩ = Dig.intN y) := ⟨by rw [hy]; rfl⟩
 have hyE : y.e ≤ 2000000000000 ∧ -2000000000000 ≤ y.e := by rw [hy]; exact Dig.norm_e_bound _ hl he he'
 replace hy : Box (y = Dig.norm ⟨sg, d, E⟩) := ⟨hy⟩
 obtain ⟨s', d', e'⟩ := y
 obtain ⟨hE1, hE2⟩ : e' ≤ 2000000000000 ∧ -2000000000000 ≤ e' := hyE
 replace hyd : Box (d'.all Dig.dig = true) := ⟨hyd⟩
 have hyl : d'.length ≤ 1000000000000 := hyl
 have sz := aR d'
 simp only [dec]
 by_cases h0 : e' < 0
 · have hr : Box (Dig.intN ⟨s', d', e'⟩ = (0, 7)) := ⟨by unfold Dig.intN; rw [if_pos h0]⟩
   go_enter Tryz.func69, Tryz.ntmps69
   go_wp2_with fail
   refine (kE sg d E _ _ hy hl he he').mono ?_
   rintro e w1 ⟨rfl, ht1⟩
   try go_simp
   go_wp2
   go_ret2
   exact ⟨by rw [hyi.out, hr.out]; rfl, ((Touch.refl _ _).alloc _).trans ht1 |>.alloc _⟩
 by_cases h1 : 16 < (d'.length : Int) + e'
 · have hr : Box (Dig.intN ⟨s', d', e'⟩ = (0, 8)) := ⟨by unfold Dig.intN; rw [if_neg h0, if_pos h1]⟩
   go_enter Tryz.func69, Tryz.ntmps69
   go_wp2_with fail
   refine (kE sg d E _ _ hy hl he he').mono ?_
   rintro e w1 ⟨rfl, ht1⟩
   try go_simp
   go_wp2
   go_ret2
   exact ⟨by rw [hyi.out, hr.out]; rfl, ((Touch.refl _ _).alloc _).trans ht1 |>.alloc _⟩
 go_enter Tryz.func69, Tryz.ntmps69
 go_wp2_with fail
 refine (kE sg d E _ _ hy hl he he').mono ?_
 rintro e w1 ⟨rfl, ht1⟩
 try go_simp
 go_wp2
 have hA : (w1.alloc (Obj.cells #[.bool s', .string (str d'), .int .i64 e'] 116)).heap[w1.heap.size]? = some (.cells #[.bool s', .string (str d'), .int .i64 e'] 116) := aZ _ _
 have hT : Touch [] w (w1.alloc (Obj.cells #[.bool s', .string (str d'), .int .i64 e'] 116)) := (((Touch.refl _ _).alloc _).trans ht1).alloc _
 obtain ⟨W, hW⟩ : ∃ W, W = w1.alloc (Obj.cells #[.bool s', .string (str d'), .int .i64 e'] 116) := ⟨_, rfl⟩
 rw [← hW] at hA hT ⊢
 clear hW
 have ⟨c0,c1,c2⟩ := cs3 hA
 try simp at c0 c1 c2
 clear hA
 go_loop [5, 6] (fun n i => ∃ k : Nat, k ≤ d'.length ∧ i = .int .i64 k ∧ n = .int .i64 (Dig.val (d'.take k) : Nat)) (fun _ i => d'.length - (intOf i).toNat)
 case atStart => exact ⟨0, by omega, rfl, rfl⟩
 case round =>
  obtain ⟨k, hk, rfl, rfl⟩ := hrel
  obtain ⟨v, hv⟩ : ∃ v, v = Dig.val (d'.take k) := ⟨_, rfl⟩
  have hvb : v < 10 ^ 16 := by
   rw [hv]
   refine Nat.lt_of_lt_of_le (Dig.val_lt _ (Dig.take_all _ k hyd.out)) (Nat.pow_le_pow_right (by omega) ?_)
   rw [List.length_take]; omega
  have hvb : v < 10000000000000000 := hvb
  rw [← hv]
  replace hv : Box (v = Dig.val (d'.take k)) := ⟨hv⟩
  by_cases hlt : k < d'.length
  · obtain ⟨c, hc⟩ : ∃ c, d'[k]? = some c := ⟨d'[k], by simp [hlt]⟩
    have hcd := Dig.dig_le c (Dig.all_mem _ k c hyd.out hc)
    have i0 : ∀ w, (Instr.index 9 (.string (str d')) (.int .i64 (k : Int))).run Tryz.prog w = .ok (.int .u8 c.toNat) w := fun w => cI Tryz.underlying9 d' .i64 k c hc w
    have hcb : Box (d'[k]? = some c) := ⟨hc⟩
    clear hc
    go_wp2
    go_round
    case measure => simp [intOf]; omega
    case rel =>
     refine ⟨k + 1, by omega, by go_num, ?_⟩
     rw [List.take_add_one, hcb.out, Option.toList_some, Dig.val_snoc, ← hv.out]
     congr 1
     omega
  · have hkd : d'.take k = d' := List.take_of_length_le (by omega)
    replace hv : Box (v = Dig.val d') := ⟨by rw [hv.out, hkd]⟩
    clear hkd
    go_wp2
    obtain ⟨E1, rfl⟩ : ∃ E1 : Nat, e' = E1 := ⟨e'.toNat, by omega⟩
    go_loop [5, 7] (fun n i => ∃ j : Nat, j ≤ E1 ∧ i = .int .i64 j ∧ n = .int .i64 (v * 10 ^ j : Nat)) (fun _ i => E1 - (intOf i).toNat)
    case atStart => exact ⟨0, by omega, rfl, by simp⟩
    case round =>
     obtain ⟨j, hj, rfl, rfl⟩ := hrel
     obtain ⟨u, hu⟩ : ∃ u, u = v * 10 ^ j := ⟨_, rfl⟩
     have hub : u < 10000000000000000 := by
      have h1 : v < 10 ^ d'.length := by rw [hv.out]; exact Dig.val_lt _ hyd.out
      have h2 : u < 10 ^ d'.length * 10 ^ j := by rw [hu]; exact Nat.mul_lt_mul_of_pos_right h1 (Nat.pow_pos (by omega))
      rw [← Nat.pow_add] at h2
      have h3 : 10 ^ (d'.length + j) ≤ 10 ^ 16 := Nat.pow_le_pow_right (by omega) (by omega)
      have h4 : (10 : Nat) ^ 16 = 10000000000000000 := by decide
      omega
     rw [← hu]
     replace hu : Box (u = v * 10 ^ j) := ⟨hu⟩
     by_cases hlt2 : j < E1
     · go_wp2
       go_round
       case measure => simp [intOf]; omega
       case rel => exact ⟨j + 1, by omega, by go_num, by rw [Nat.pow_succ, ← Nat.mul_assoc, ← hu.out]; congr 1; omega⟩
     · have hjE : j = E1 := by omega
       have hr : Box (Dig.intN ⟨s', d', E1⟩ = if 9007199254740991 < u then (0, 8) else (if s' = true then -(u : Int) else u, 0)) := ⟨by
        unfold Dig.intN
        rw [if_neg (show ¬ ((E1 : Int) < 0) by omega), if_neg (show ¬ (16 < (d'.length : Int) + (E1 : Int)) by omega)]
        have : Dig.val d' * 10 ^ (E1 : Int).toNat = u := by rw [hu.out, hv.out, hjE]; simp
        simp only [this]⟩
       clear hjE
       by_cases h2 : 9007199254740991 < u
       · go_wp2
         go_ret2
         exact ⟨by rw [hyi.out, hr.out, if_pos h2]; rfl, hT⟩
       · cases hs : s' with
         | true =>
          rw [hs] at c0
          go_wp2
          go_ret2
          exact ⟨by rw [hyi.out, hr.out, if_neg h2, hs]; rfl, hT⟩
         | false =>
          rw [hs] at c0
          go_wp2
          go_ret2
          exact ⟨by rw [hyi.out, hr.out, if_neg h2, hs]; rfl, hT⟩
end Go.Proofs.YthdncmagfgoboaaGreatDoor
end
section
namespace Go.Proofs.YthdncmagfgoboaaGreatDoor
open Go.RowKit
set_option maxRecDepth 100000
set_option maxHeartbeats 4000000
end Go.Proofs.YthdncmagfgoboaaGreatDoor
end
section
namespace Go.Proofs.YthdncmagfgoboaaGreatDoor
open Go.RowKit
set_option maxRecDepth 100000
set_option maxHeartbeats 4000000
theorem gG (l : List UInt8) (w : World) (hl : l.length ≤ 100000000000) :
 Calls Tryz.prog 63 #[.string (str l)] w fun e w' => e = .returned (.tuple #[dec ((Dig.read l).getD Dig.zero), .bool (Dig.read l).isSome]) ∧ Touch [] w w' := by
 have sz := aR l
 let kp : Exit → Act → World → Prop := bodyPost Tryz.prog Tryz.f63 (fun _ _ => True)
 refine aA Tryz.func63 rfl ?_
 intro Q hQ
 simp only [Tryz.ntmps63, ents_, Nat.reduceAdd, Nat.reduceSub]
 go_upto_region 3 with (fail)
 go_cut [20] (fun v wx => (∃ b : Bool, v = .bool b ∧ Box (b = decide (l[0]? = some 45))) ∧ RSt w wx false [] 0)
 case first => as_aux_lemma =>
  have hst : RSt w ((w.alloc (Obj.cells #[.bool false, .string ⟨#[]⟩, .int .i64 0] 116)).alloc (Obj.cells #[.bool false, .string ⟨#[]⟩, .int .i64 0] 116)) false [] 0 := ⟨aW (aZ _ _) _, fL _ _ _, by simp, ((Touch.refl _ _).alloc _).alloc _⟩
  cases l with
  | nil =>
   go_wp2
   go_meet
   exact ⟨⟨false, rfl, ⟨rfl⟩⟩, hst⟩
  | cons c t =>
   have i0 : ∀ w, (Instr.index 9 (.string (str (c :: t))) (.int .i64 0)).run Tryz.prog w = .ok (.int .u8 c.toNat) w := fun w => cI Tryz.underlying9 (c :: t) .i64 0 c rfl w
   have t0 : 0 < (c :: t).length := by simp
   go_wp2
   go_meet
   exact ⟨⟨_, rfl, ⟨by simp [pA]⟩⟩, hst⟩
 case rest =>
  obtain ⟨⟨b, rfl, hb⟩, hst⟩ := hcut
  go_upto_if 20 with (fail)
  go_cut [4] (fun v wx => ∃ (i : Nat) (sg : Bool), v = .int .i64 i ∧ i ≤ l.length ∧ Box (Dig.read l = Dig.readBody sg (l.drop i)) ∧ RSt w wx sg [] 0)
  case first => as_aux_lemma =>
   obtain ⟨hR, hB, hs, hT⟩ := hst
   have ⟨c0,c1,c2⟩ := cs3 hB
   have ⟨f0,f1,f2⟩ := fs3 hB
   have ⟨r0,r1,r2⟩ := cs3 hR
   have ⟨g0,g1,g2⟩ := fs3 hR
   have hz0 : w.heap.size < (wc).heap.size := by omega
   have hz1 : w.heap.size + 1 < (wc).heap.size := by omega
   try simp at c0 c1 c2 r0 r1 r2
   cases hbb : b with
   | true =>
    have h1 : l[0]? = some 45 := by rw [hbb] at hb; simpa using hb.out.symm
    have hsp : Box (Dig.read l = Dig.readBody true (l.drop 1)) := ⟨Dig.read_neg l h1⟩
    have hl1 : 1 ≤ l.length := by have := (List.getElem?_eq_some_iff.1 h1).1; omega
    clear h1 hb
    subst hbb
    go_wp2
    go_meet
    exact ⟨1, true, rfl, hl1, hsp, aU hR (by simp) _, aF hB 0 _, by simpa using hs, hT.setCell (by simp) _⟩
   | false =>
    have h1 : ¬ l[0]? = some 45 := by rw [hbb] at hb; simpa using hb.out
    have hsp : Box (Dig.read l = Dig.readBody false (l.drop 0)) := ⟨Dig.read_pos l h1⟩
    clear h1 hb
    subst hbb
    go_wp2
    go_meet
    exact ⟨0, false, rfl, by omega, hsp, hR, hB, hs, hT⟩
  case rest =>
   obtain ⟨i, sg, rfl, hi, hsp, hst⟩ := hcut
   obtain ⟨n, hn0⟩ : ∃ n, n = Dig.run (l.drop i) := ⟨_, rfl⟩
   have hin : i + n ≤ l.length := by have := Dig.run_le (l.drop i); rw [List.length_drop] at this; omega
   have hn : Box (n = Dig.run (l.drop i)) := ⟨hn0⟩
   have hcall : ∀ w, Calls Tryz.prog 96 #[.string (str l), .int .i64 i] w fun e w' => e = .returned (.int .i64 n) ∧ Touch [] w w' := fun w => by rw [hn0]; exact kQ l i w hi (by omega)
   clear hn0
   obtain ⟨hR, hB, hs, hT⟩ := hst
   go_wp2_with fail
   refine (hcall _).mono ?_
   rintro e w1 ⟨rfl, ht1⟩
   try go_simp
   replace hR := ht1.keep hR (by simp)
   replace hB := ht1.keep hB (by simp)
   replace hs : w.heap.size + 2 ≤ w1.heap.size := Nat.le_trans hs ht1.size
   replace hT := hT.trans ht1
   clear ht1 hcall
   go_upto_region 7 with (fail)
   go_cut [38] (fun v wx => (∃ b : Bool, v = .bool b ∧ Box (b = decide (n = 0 ∨ (1 < n ∧ l[i]? = some 48)))) ∧ RSt w wx sg [] 0)
   case first => as_aux_lemma =>
    by_cases h0 : n = 0
    · have t1 : ((n : Int) == 0) = true := by rw [h0]; rfl
      have hb : Box (true = decide (n = 0 ∨ (1 < n ∧ l[i]? = some 48))) := ⟨by simp [h0]⟩
      clear h0
      go_wp2
      go_meet
      exact ⟨⟨_, rfl, hb⟩, hR, hB, hs, hT⟩
    have t1 : ((n : Int) == 0) = false := by rw [beq_eq_false_iff_ne]; omega
    by_cases h1 : 1 < n
    · obtain ⟨c, hcb⟩ : ∃ c, Box (l[i]? = some c) := ⟨l[i]'(by omega), ⟨by simp⟩⟩
      have i0 : ∀ w, (Instr.index 9 (.string (str l)) (.int .i64 i)).run Tryz.prog w = .ok (.int .u8 (c).toNat) w := fun w => by
       have := cI Tryz.underlying9 l .i64 _ c hcb.out w
       simpa using this
      have hb : Box (((c.toNat : Int) == 48) = decide (n = 0 ∨ (1 < n ∧ l[i]? = some 48))) := ⟨by rw [oZ, hcb.out]; simp [h0, h1]⟩
      go_wp2
      go_meet
      exact ⟨⟨_, rfl, hb⟩, hR, hB, hs, hT⟩
    · have hb : Box (false = decide (n = 0 ∨ (1 < n ∧ l[i]? = some 48))) := ⟨by simp [h0, h1]⟩
      go_wp2
      go_meet
      exact ⟨⟨_, rfl, hb⟩, hR, hB, hs, hT⟩
   case rest =>
    obtain ⟨⟨b, rfl, hb⟩, hst⟩ := hcut
    obtain ⟨hR, hB, hs, hT⟩ := hst
    have ⟨c0,c1,c2⟩ := cs3 hB
    have ⟨f0,f1,f2⟩ := fs3 hB
    have ⟨r0,r1,r2⟩ := cs3 hR
    have ⟨g0,g1,g2⟩ := fs3 hR
    have hz0 : w.heap.size < (wc).heap.size := by omega
    have hz1 : w.heap.size + 1 < (wc).heap.size := by omega
    try simp at c0 c1 c2 r0 r1 r2
    cases hbb : b with
    | true =>
     replace hsp : Box (Dig.read l = none) := ⟨by rw [hsp.out]; exact Dig.readBody_bad sg l i n hn.out (by have := hb.out; rw [hbb] at this; simpa using this.symm)⟩
     subst hbb
     clear hb
     go_wp2
     exact hQ.ret (v := .tuple #[dec Dig.zero, .bool false]) (by simp [results, Tryz.results63, go_sem, Dig.zero, str, r0, r1, r2]) rfl ⟨by rw [hsp.out]; rfl, ((hT.setCell (by simp) _).setCell (by simp) _).setCell (by simp) _⟩
    | false =>
     have hok : Box (¬ (n = 0 ∨ (1 < n ∧ l[i]? = some 48))) := ⟨by have := hb.out; rw [hbb] at this; simpa using this⟩
     subst hbb
     clear hb
     have i1 : ∀ w, (Instr.slice 9 (.string (str l)) (some (.int .i64 i)) (some (.int .i64 ((i : Int) + n))) none).run Tryz.prog w = .ok (.string (str ((l.drop i).take n))) w := fun w => by
      have := sS Tryz.underlying9 l .i64 .i64 i (i + n) (by omega) hin w
      rw [show ((i + n : Nat) : Int) = (i : Int) + n by omega, show i + n - i = n by omega] at this
      exact this
     go_upto_region 11 with (fail)
     obtain ⟨J, hJ⟩ : ∃ J, J = i + n := ⟨_, rfl⟩
     have eJ : (i : Int) + (n : Int) = (J : Int) := by omega
     have hJl : J ≤ l.length := by omega
     rw [eJ]
     replace hJ : Box (J = i + n) := ⟨hJ⟩
     clear eJ i1
     obtain ⟨D0, hD0⟩ : ∃ D0, D0 = (l.drop i).take n := ⟨_, rfl⟩
     rw [← hD0]
     have hD0l : D0.length ≤ l.length := by rw [hD0]; simp; omega
     replace hD0 : Box (D0 = (l.drop i).take n) := ⟨hD0⟩
     go_cut [59] (fun v wx => (∃ b : Bool, v = .bool b ∧ Box (b = decide (l[J]? = some 46))) ∧ RSt w wx sg D0 0)
     case first => as_aux_lemma =>
      have hst : RSt w (wc.setCell ⟨w.heap.size + 1, 1, none⟩ (.string (str D0))) sg D0 0 := ⟨aU hR (by simp) _, aF hB 1 _, by simpa using hs, hT.setCell (by simp) _⟩
      by_cases hlt : J < l.length
      · obtain ⟨c, hcb⟩ : ∃ c, Box (l[J]? = some c) := ⟨l[J]'hlt, ⟨by simp⟩⟩
        have i0 : ∀ w, (Instr.index 9 (.string (str l)) (.int .i64 J)).run Tryz.prog w = .ok (.int .u8 (c).toNat) w := fun w => by
         have := cI Tryz.underlying9 l .i64 _ c hcb.out w
         simpa using this
        have hb : Box (((c.toNat : Int) == 46) = decide (l[J]? = some 46)) := ⟨by rw [byte_46, hcb.out]; simp⟩
        go_wp2
        go_meet
        exact ⟨⟨_, rfl, hb⟩, hst⟩
      · have hb : Box (false = decide (l[J]? = some 46)) := ⟨by rw [List.getElem?_eq_none (by omega)]; simp⟩
        go_wp2
        go_meet
        exact ⟨⟨_, rfl, hb⟩, hst⟩
     case rest =>
      obtain ⟨⟨b, rfl, hb⟩, hst⟩ := hcut
      go_upto_if 59 with (fail)
      go_cut [4] (fun v wx => ∃ (j : Nat) (D : List UInt8) (E : Int), v = .int .i64 j ∧ j ≤ l.length ∧ D.length ≤ 2 * l.length ∧ -100000000000 ≤ E ∧ E ≤ 0 ∧ Box (Dig.read l = (Dig.readExp (l.drop j)).map fun e => Dig.norm ⟨sg, D, E + e⟩) ∧ RSt w wx sg D E)
      case first => as_aux_lemma =>
       obtain ⟨hR, hB, hs, hT⟩ := hst
       have ⟨c0,c1,c2⟩ := cs3 hB
       have ⟨f0,f1,f2⟩ := fs3 hB
       have ⟨r0,r1,r2⟩ := cs3 hR
       have ⟨g0,g1,g2⟩ := fs3 hR
       have hz0 : w.heap.size < (wc).heap.size := by omega
       have hz1 : w.heap.size + 1 < (wc).heap.size := by omega
       try simp at c0 c1 c2 r0 r1 r2
       cases hbb : b with
       | true =>
        have hp : l[J]? = some 46 := by have := hb.out; rw [hbb] at this; simpa using this.symm
        have hJ1 : J + 1 ≤ l.length := (List.getElem?_eq_some_iff.1 hp).1
        subst hbb
        clear hb
        obtain ⟨m, hm0⟩ : ∃ m, m = Dig.run (l.drop (J + 1)) := ⟨_, rfl⟩
        have hJm : J + 1 + m ≤ l.length := by have := Dig.run_le (l.drop (J + 1)); rw [List.length_drop] at this; omega
        have hcall : ∀ w, Calls Tryz.prog 96 #[.string (str l), .int .i64 ((J : Int) + 1)] w fun e w' => e = .returned (.int .i64 m) ∧ Touch [] w w' := fun w => by rw [hm0]; exact kQ l (J + 1) w hJ1 (by omega)
        replace hp : Box (l[J]? = some 46) := ⟨hp⟩
        have hm : Box (m = Dig.run (l.drop (J + 1))) := ⟨hm0⟩
        clear hm0
        clear c0 c1 c2 f0 f1 f2 r0 r1 r2 g0 g1 g2
        go_wp2_with fail
        refine (hcall _).mono ?_
        rintro e w1 ⟨rfl, ht1⟩
        try go_simp
        have hst : RSt w w1 sg D0 0 := ⟨ht1.keep hR (by simp), ht1.keep hB (by simp), Nat.le_trans hs ht1.size, hT.trans ht1⟩
        clear hR hB hs hT ht1 hcall hz0 hz1
        obtain ⟨hR, hB, hs, hT⟩ := hst
        have ⟨c0,c1,c2⟩ := cs3 hB
        have ⟨f0,f1,f2⟩ := fs3 hB
        have ⟨r0,r1,r2⟩ := cs3 hR
        have ⟨g0,g1,g2⟩ := fs3 hR
        have hz0 : w.heap.size < (w1).heap.size := by omega
        have hz1 : w.heap.size + 1 < (w1).heap.size := by omega
        try simp at c0 c1 c2 r0 r1 r2
        by_cases hm0 : m = 0
        · have t1 : ((m : Int) == 0) = true := by rw [hm0]; rfl
          replace hsp : Box (Dig.read l = none) := ⟨by
           have := Dig.readBody_point_bad sg l i n hn.out hok.out (by rw [← hJ.out]; exact hp.out) (by rw [← hJ.out, ← hm.out]; exact hm0)
           rw [hsp.out, this]⟩
          clear hm0
          go_wp2
          exact hQ.ret (v := .tuple #[dec Dig.zero, .bool false]) (by simp [results, Tryz.results63, go_sem, Dig.zero, str, r0, r1, r2]) rfl ⟨by rw [hsp.out]; rfl, ((hT.setCell (by simp) _).setCell (by simp) _).setCell (by simp) _⟩
        · have t1 : ((m : Int) == 0) = false := by rw [beq_eq_false_iff_ne]; omega
          have hsp1 : Box (Dig.read l = (Dig.readExp (l.drop (J + 1 + m))).map fun e => Dig.norm ⟨sg, D0 ++ (l.drop (J + 1)).take m, -(m : Int) + e⟩) := ⟨by
           have := Dig.readBody_point sg l i n m hn.out hok.out (by rw [← hJ.out]; exact hp.out) (by rw [← hJ.out]; exact hm.out) hm0
           rw [← hJ.out] at this
           rw [hsp.out, this, hD0.out]⟩
          clear hm0 hsp
          have i1 : ∀ w, (Instr.slice 9 (.string (str l)) (some (.int .i64 ((J : Int) + 1))) (some (.int .i64 ((J : Int) + 1 + m))) none).run Tryz.prog w = .ok (.string (str ((l.drop (J + 1)).take m))) w := fun w => by
           have := sS Tryz.underlying9 l .i64 .i64 (J + 1) (J + 1 + m) (by omega) hJm w
           rw [show ((J + 1 + m : Nat) : Int) = (J : Int) + 1 + m by omega, show ((J + 1 : Nat) : Int) = (J : Int) + 1 by omega, show J + 1 + m - (J + 1) = m by omega] at this
           exact this
          have hXl : ((l.drop (J + 1)).take m).length ≤ l.length := by simp; omega
          have hcat := kD (P := Tryz.prog) D0 ((l.drop (J + 1)).take m) (by omega)
          have e1 : IntKind.i64.wrap ((J : Int) + 1) = (J : Int) + 1 := IntWalk.i64_in _ (by omega)
          have e2 : IntKind.i64.wrap ((J : Int) + 1 + m) = (J : Int) + 1 + m := IntWalk.i64_in _ (by omega)
          go_wp2
          go_still_tail 12, (by kernel_rfl)
          go_wp2
          go_meet
          refine ⟨J + 1 + m, D0 ++ (l.drop (J + 1)).take m, -(m : Int), ?_, hJm, by rw [List.length_append]; omega, by omega, by omega, hsp1, ?_⟩
          · go_num
          · exact ⟨aU (aU (bA hR _) (by simp) _) (by simp) _, aF (aF (bA hB _) 1 _) 2 _, by simpa using hs, ((hT.drewN _).setCell (by simp) _).setCell (by simp) _⟩
       | false =>
        have hp : ¬ l[J]? = some 46 := by have := hb.out; rw [hbb] at this; simpa using this
        have hsp1 : Box (Dig.read l = (Dig.readExp (l.drop J)).map fun e => Dig.norm ⟨sg, D0, 0 + e⟩) := ⟨by
         have := Dig.readBody_plain sg l i n hn.out hok.out (by rw [← hJ.out]; exact hp)
         rw [hsp.out, this, hJ.out, hD0.out]⟩
        subst hbb
        clear hp hb
        go_wp2
        go_meet
        exact ⟨J, D0, 0, rfl, hJl, by omega, by omega, by omega, hsp1, hR, hB, hs, hT⟩
      case rest =>
       obtain ⟨j, D, E, rfl, hj, hD, hE1, hE2, hsp, hst⟩ := hcut
       go_upto_region 18 with (fail)
       go_cut [101] (fun v wx => (∃ b : Bool, v = .bool b ∧ Box (b = decide (l[j]? = some 101 ∨ l[j]? = some 69))) ∧ RSt w wx sg D E)
       case first => as_aux_lemma =>
        by_cases hlt : j < l.length
        · obtain ⟨c, hcb⟩ : ∃ c, Box (l[j]? = some c) := ⟨l[j]'hlt, ⟨by simp⟩⟩
          have i0 : ∀ w, (Instr.index 9 (.string (str l)) (.int .i64 j)).run Tryz.prog w = .ok (.int .u8 (c).toNat) w := fun w => by
           have := cI Tryz.underlying9 l .i64 _ c hcb.out w
           simpa using this
          by_cases h1 : c = 101
          · have t1 : ((c.toNat : Int) == 101) = true := by rw [h1]; rfl
            have hb : Box (true = decide (l[j]? = some 101 ∨ l[j]? = some 69)) := ⟨by rw [hcb.out, h1]; simp⟩
            clear h1
            go_wp2
            go_meet
            exact ⟨⟨_, rfl, hb⟩, hst⟩
          · have t1 : ((c.toNat : Int) == 101) = false := by rw [lT]; simpa using h1
            have hb : Box (((c.toNat : Int) == 69) = decide (l[j]? = some 101 ∨ l[j]? = some 69)) := ⟨by rw [oY, hcb.out]; simp [h1]⟩
            clear h1
            go_wp2
            go_meet
            exact ⟨⟨_, rfl, hb⟩, hst⟩
        · have hb : Box (false = decide (l[j]? = some 101 ∨ l[j]? = some 69)) := ⟨by rw [List.getElem?_eq_none (by omega)]; simp⟩
          go_wp2
          go_meet
          exact ⟨⟨_, rfl, hb⟩, hst⟩
       case rest =>
        obtain ⟨⟨b, rfl, hb⟩, hst⟩ := hcut
        go_upto_if 101 with (fail)
        go_cut [4] (fun v wx => ∃ (p : Nat) (E' : Int), v = .int .i64 p ∧ p ≤ l.length ∧ -200000000000 ≤ E' ∧ E' ≤ 1000000000 ∧ Box (Dig.read l = if p < l.length then none else some (Dig.norm ⟨sg, D, E'⟩)) ∧ RSt w wx sg D E')
        case first => as_aux_lemma =>
         cases hbb : b with
         | false =>
          have hp : ¬ (l[j]? = some 101 ∨ l[j]? = some 69) := by have := hb.out; rw [hbb] at this; simpa using this
          have hsp1 : Box (Dig.read l = if j < l.length then none else some (Dig.norm ⟨sg, D, E⟩)) := ⟨by
           rw [hsp.out, Dig.readExp_none l j hp]
           by_cases h2 : j < l.length
           · rw [if_pos h2, if_pos h2]; rfl
           · rw [if_neg h2, if_neg h2]; simp⟩
          subst hbb
          clear hp hb
          go_wp2
          go_meet
          exact ⟨j, E, rfl, hj, by omega, by omega, hsp1, hst⟩
         | true =>
          have hp : l[j]? = some 101 ∨ l[j]? = some 69 := by have := hb.out; rw [hbb] at this; simpa using this.symm
          have hj1 : j + 1 ≤ l.length := by rcases hp with hp | hp <;> exact (List.getElem?_eq_some_iff.1 hp).1
          replace hsp : Box (Dig.read l = ((Dig.expDigits (l.drop (Dig.expSign l (j + 1)))).map fun n => if l[j + 1]? = some 45 then -(n : Int) else (n : Int)).map fun e => Dig.norm ⟨sg, D, E + e⟩) := ⟨by rw [hsp.out, Dig.readExp_e l j hp]⟩
          subst hbb
          clear hp hb
          go_upto_region 20 with (fail)
          obtain ⟨k, hk⟩ : ∃ k, k = j + 1 := ⟨_, rfl⟩
          have ek : (j : Int) + 1 = (k : Int) := by omega
          rw [← hk] at hj1 hsp
          rw [ek]
          clear ek hk
          go_cut [7] (fun v wx => (∃ b : Bool, v = .bool b ∧ Box (b = decide (l[k]? = some 45))) ∧ RSt w wx sg D E)
          case first => as_aux_lemma =>
           by_cases hlt : k < l.length
           · obtain ⟨c, hcb⟩ : ∃ c, Box (l[k]? = some c) := ⟨l[k]'hlt, ⟨by simp⟩⟩
             have i0 : ∀ w, (Instr.index 9 (.string (str l)) (.int .i64 k)).run Tryz.prog w = .ok (.int .u8 (c).toNat) w := fun w => by
              have := cI Tryz.underlying9 l .i64 _ c hcb.out w
              simpa using this
             have hb : Box (((c.toNat : Int) == 45) = decide (l[k]? = some 45)) := ⟨by rw [pA, hcb.out]; simp⟩
             go_wp2
             go_meet
             exact ⟨⟨_, rfl, hb⟩, hst⟩
           · have hb : Box (false = decide (l[k]? = some 45)) := ⟨by rw [List.getElem?_eq_none (by omega)]; simp⟩
             go_wp2
             go_meet
             exact ⟨⟨_, rfl, hb⟩, hst⟩
          case rest =>
           obtain ⟨⟨mi, rfl, hmi⟩, hst⟩ := hcut
           go_upto_region 21 with (fail)
           go_cut [129] (fun v wx => (∃ b : Bool, v = .bool b ∧ Box (b = decide (l[k]? = some 45 ∨ l[k]? = some 43))) ∧ RSt w wx sg D E)
           case first => as_aux_lemma =>
            by_cases hlt : k < l.length
            · obtain ⟨c, hcb⟩ : ∃ c, Box (l[k]? = some c) := ⟨l[k]'hlt, ⟨by simp⟩⟩
              have i0 : ∀ w, (Instr.index 9 (.string (str l)) (.int .i64 k)).run Tryz.prog w = .ok (.int .u8 (c).toNat) w := fun w => by
               have := cI Tryz.underlying9 l .i64 _ c hcb.out w
               simpa using this
              by_cases h1 : c = 45
              · have t1 : ((c.toNat : Int) == 45) = true := by rw [h1]; rfl
                have hb : Box (true = decide (l[k]? = some 45 ∨ l[k]? = some 43)) := ⟨by rw [hcb.out, h1]; simp⟩
                clear h1
                go_wp2
                go_meet
                exact ⟨⟨_, rfl, hb⟩, hst⟩
              · have t1 : ((c.toNat : Int) == 45) = false := by rw [pA]; simpa using h1
                have hb : Box (((c.toNat : Int) == 43) = decide (l[k]? = some 45 ∨ l[k]? = some 43)) := ⟨by rw [byte_43, hcb.out]; simp [h1]⟩
                clear h1
                go_wp2
                go_meet
                exact ⟨⟨_, rfl, hb⟩, hst⟩
            · have hb : Box (false = decide (l[k]? = some 45 ∨ l[k]? = some 43)) := ⟨by rw [List.getElem?_eq_none (by omega)]; simp⟩
              go_wp2
              go_meet
              exact ⟨⟨_, rfl, hb⟩, hst⟩
           case rest =>
            obtain ⟨⟨b, rfl, hb⟩, hst⟩ := hcut
            go_upto_if 129 with (fail)
            go_cut [4] (fun v wx => (∃ q : Nat, v = .int .i64 q ∧ q ≤ l.length ∧ Box (q = Dig.expSign l k)) ∧ RSt w wx sg D E)
            case first => as_aux_lemma =>
             cases hbb : b with
             | true =>
              have hp : l[k]? = some 45 ∨ l[k]? = some 43 := by have := hb.out; rw [hbb] at this; simpa using this.symm
              have hk1 : k + 1 ≤ l.length := by rcases hp with hp | hp <;> exact (List.getElem?_eq_some_iff.1 hp).1
              have hq : Box (k + 1 = Dig.expSign l k) := ⟨by unfold Dig.expSign; rw [if_pos hp]⟩
              subst hbb
              clear hp hb
              go_wp2
              go_meet
              exact ⟨⟨k + 1, by go_num, hk1, hq⟩, hst⟩
             | false =>
              have hp : ¬ (l[k]? = some 45 ∨ l[k]? = some 43) := by have := hb.out; rw [hbb] at this; simpa using this
              have hq : Box (k = Dig.expSign l k) := ⟨by unfold Dig.expSign; rw [if_neg hp]⟩
              subst hbb
              clear hp hb
              go_wp2
              go_meet
              exact ⟨⟨k, rfl, hj1, hq⟩, hst⟩
            case rest =>
             obtain ⟨⟨q, rfl, hq, hqe⟩, hst⟩ := hcut
             obtain ⟨m, hm0⟩ : ∃ m, m = Dig.run (l.drop q) := ⟨_, rfl⟩
             have hqm : q + m ≤ l.length := by have := Dig.run_le (l.drop q); rw [List.length_drop] at this; omega
             have hcall : ∀ w, Calls Tryz.prog 96 #[.string (str l), .int .i64 q] w fun e w' => e = .returned (.int .i64 m) ∧ Touch [] w w' := fun w => by rw [hm0]; exact kQ l q w hq (by omega)
             have hm : Box (m = Dig.run (l.drop q)) := ⟨hm0⟩
             clear hm0
             obtain ⟨hR, hB, hs, hT⟩ := hst
             go_wp2_with fail
             refine (hcall _).mono ?_
             rintro e w1 ⟨rfl, ht1⟩
             try go_simp
             have hst : RSt w w1 sg D E := ⟨ht1.keep hR (by simp), ht1.keep hB (by simp), Nat.le_trans hs ht1.size, hT.trans ht1⟩
             clear hR hB hs hT ht1 hcall
             obtain ⟨hR, hB, hs, hT⟩ := hst
             have ⟨c0,c1,c2⟩ := cs3 hB
             have ⟨f0,f1,f2⟩ := fs3 hB
             have ⟨r0,r1,r2⟩ := cs3 hR
             have ⟨g0,g1,g2⟩ := fs3 hR
             have hz0 : w.heap.size < (w1).heap.size := by omega
             have hz1 : w.heap.size + 1 < (w1).heap.size := by omega
             try simp at c0 c1 c2 r0 r1 r2
             by_cases hm0 : m = 0
             · have t1 : ((m : Int) == 0) = true := by rw [hm0]; rfl
               replace hsp : Box (Dig.read l = none) := ⟨by
                rw [hsp.out, ← hqe.out, Dig.expDigits_eq _ m hm.out, if_pos (Or.inl hm0)]; rfl⟩
               clear hm0
               go_wp2
               exact hQ.ret (v := .tuple #[dec Dig.zero, .bool false]) (by simp [results, Tryz.results63, go_sem, Dig.zero, str, r0, r1, r2]) rfl ⟨by rw [hsp.out]; rfl, ((hT.setCell (by simp) _).setCell (by simp) _).setCell (by simp) _⟩
             · have t1 : ((m : Int) == 0) = false := by rw [beq_eq_false_iff_ne]; omega
               have hsp1 : Box (Dig.read l = if q + m < l.length then none else some (Dig.norm ⟨sg, D, E + if l[k]? = some 45 then -((((l.drop q).take m).foldl Dig.expo 0 : Nat) : Int) else ((((l.drop q).take m).foldl Dig.expo 0 : Nat) : Int)⟩)) := ⟨by
                rw [hsp.out, ← hqe.out, Dig.expDigits_eq _ m hm.out]
                by_cases h2 : q + m < l.length
                · rw [if_pos (Or.inr (by simp; omega)), if_pos h2]; rfl
                · rw [if_neg (by simp; omega), if_neg h2]; rfl⟩
               clear hm0 hsp
               have eqm : IntKind.i64.wrap ((q : Int) + m) = (q : Int) + m := IntWalk.i64_in _ (by omega)
               go_wp2
               go_loop [8, 9] (fun n i => ∃ (a s : Nat), s ≤ m ∧ a ≤ 1000000000 ∧ i = .int .i64 ((q : Int) + s) ∧ n = .int .i64 a ∧ Box (a = ((l.drop q).take s).foldl Dig.expo 0)) (fun _ i => q + m - (intOf i).toNat)
               case atStart => exact ⟨0, 0, by omega, by omega, by simp, rfl, ⟨rfl⟩⟩
               case round =>
                obtain ⟨a, s, hsm, ha, rfl, rfl, hae⟩ := hrel
                by_cases hlt : s < m
                · obtain ⟨c, hc0, hc1, hc2⟩ := Dig.run_lt (l.drop q) s (by rw [← hm.out]; exact hlt)
                  have hcb : Box (l[q + s]? = some c) := ⟨by rw [← hc0, List.getElem?_drop]⟩
                  have i0 : ∀ w, (Instr.index 9 (.string (str l)) (.int .i64 ((q : Int) + s))).run Tryz.prog w = .ok (.int .u8 c.toNat) w := fun w => by
                   have := cI Tryz.underlying9 l .i64 _ c hcb.out w
                   rw [show ((q + s : Nat) : Int) = (q : Int) + s by omega] at this
                   exact this
                  have hcd : Box ((l.drop q)[s]? = some c) := ⟨hc0⟩
                  clear hc0
                  go_wp2
                  all_goals
                   go_round
                   case measure => simp [intOf]; omega
                   case rel =>
                    refine ⟨Dig.expo a c, s + 1, by omega, Nat.min_le_right _ _, by go_num, ?_, ⟨?_⟩⟩
                    · unfold Dig.expo
                      congr 1
                      omega
                    · rw [List.take_add_one, hcd.out, Option.toList_some, List.foldl_append, ← hae.out]; rfl
                · have hsm2 : s = m := by omega
                  replace hae : Box (a = ((l.drop q).take m).foldl Dig.expo 0) := ⟨by rw [hae.out, hsm2]⟩
                  subst hsm2
                  clear hlt
                  cases hmm : mi with
                  | true =>
                   have h45 : l[k]? = some 45 := by have := hmi.out; rw [hmm] at this; simpa using this.symm
                   rw [if_pos h45, ← hae.out] at hsp1
                   go_wp2
                   go_meet
                   exact ⟨q + s, E + -(a : Int), by go_num, hqm, by omega, by omega, hsp1, aU hR (by simp) _, aF hB 2 _, by simpa using hs, hT.setCell (by simp) _⟩
                  | false =>
                   have h45 : ¬ l[k]? = some 45 := by have := hmi.out; rw [hmm] at this; simpa using this
                   rw [if_neg h45, ← hae.out] at hsp1
                   go_wp2
                   go_meet
                   exact ⟨q + s, E + (a : Int), by go_num, hqm, by omega, by omega, hsp1, aU hR (by simp) _, aF hB 2 _, by simpa using hs, hT.setCell (by simp) _⟩
        case rest =>
         obtain ⟨p, E', rfl, hp, hE3, hE4, hsp, hst⟩ := hcut
         obtain ⟨hR, hB, hs, hT⟩ := hst
         have ⟨c0,c1,c2⟩ := cs3 hB
         have ⟨f0,f1,f2⟩ := fs3 hB
         have ⟨r0,r1,r2⟩ := cs3 hR
         have ⟨g0,g1,g2⟩ := fs3 hR
         have hz0 : w.heap.size < (wc).heap.size := by omega
         have hz1 : w.heap.size + 1 < (wc).heap.size := by omega
         try simp at c0 c1 c2 r0 r1 r2
         by_cases hpl : p < l.length
         · replace hsp : Box (Dig.read l = none) := ⟨by rw [hsp.out, if_pos hpl]⟩
           go_wp2
           exact hQ.ret (v := .tuple #[dec Dig.zero, .bool false]) (by simp [results, Tryz.results63, go_sem, Dig.zero, str, r0, r1, r2]) rfl ⟨by rw [hsp.out]; rfl, ((hT.setCell (by simp) _).setCell (by simp) _).setCell (by simp) _⟩
         · obtain ⟨y, hy⟩ : ∃ y, y = Dig.norm ⟨sg, D, E'⟩ := ⟨_, rfl⟩
           replace hsp : Box (Dig.read l = some y) := ⟨by rw [hsp.out, if_neg hpl, hy]⟩
           have hnc : ∀ w, Calls Tryz.prog 94 #[.agg #[.bool sg, .string (str D), .int .i64 E']] w fun r w' => r = .returned (.agg #[.bool y.neg, .string (str y.d), .int .i64 y.e]) ∧ Touch [] w w' := fun w => kE sg D E' y w ⟨hy⟩ (by omega) (by omega) (by omega)
           clear hy
           obtain ⟨s', d', e'⟩ := y
           go_wp2_with fail
           refine (hnc _).mono ?_
           rintro r w2 ⟨rfl, ht2⟩
           try go_simp
           have hR2 := ht2.keep hR (by simp)
           have hT2 := hT.trans ht2
           have ⟨q0,q1,q2⟩ := cs3 hR2
           have ⟨p0,p1,p2⟩ := fs3 hR2
           have hz2 : w.heap.size < w2.heap.size := aB hR2
           try simp at q0 q1 q2
           clear c0 c1 c2 f0 f1 f2 r0 r1 r2 g0 g1 g2 hz0 hz1
           go_wp2
           exact hQ.ret (v := .tuple #[dec ⟨s', d', e'⟩, .bool true]) (by simp [results, Tryz.results63, go_sem, q0, q1, q2]) rfl ⟨by rw [hsp.out]; rfl, ((hT2.setCell (by simp) _).setCell (by simp) _).setCell (by simp) _⟩
end Go.Proofs.YthdncmagfgoboaaGreatDoor
end
