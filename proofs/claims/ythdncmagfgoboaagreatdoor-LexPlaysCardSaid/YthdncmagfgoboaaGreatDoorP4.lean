/- One of the texts that lead to the theorem lexPlays.proved: the conditions stand in each theorem. -/
import Derived.Test.YthdncmagfgoboaaGreatDoorP0
import Derived.Test.YthdncmagfgoboaaGreatDoorP3
set_option linter.unusedSimpArgs false
set_option linter.unusedVariables false
section
namespace Go.Proofs.YthdncmagfgoboaaGreatDoorW.PrintMore
open Go.RowKit Go.Proofs.YthdncmagfgoboaaGreatDoorW.PrintWords
theorem yC (k k' : IntKind) (x y : Int) : Builtin.max2 (.int k x) (.int k' y) = pure (.int k (if x < y then y else x)) := by simp only [Builtin.max2, gt_iff_lt]
theorem yA (k k' : IntKind) (x y : Int) : Builtin.min2 (.int k x) (.int k' y) = pure (.int k (if y < x then y else x)) := by simp only [Builtin.min2]
theorem yE (ats : Array TypeId) (ty : TypeId) (a b : Value) : Builtin.max_ ats ty #[a, b] = (Builtin.max2 a b >>= fun s => pure s) := by simp only [Builtin.max_, List.foldlM_cons, List.foldlM_nil]
theorem yD (ats : Array TypeId) (ty : TypeId) (a b : Value) : Builtin.min_ ats ty #[a, b] = (Builtin.min2 a b >>= fun s => pure s) := by simp only [Builtin.min_, List.foldlM_cons, List.foldlM_nil]
theorem xY (ats : Array TypeId) (ty : TypeId) (a b c : Value) : Builtin.max_ ats ty #[a, b, c] = (Builtin.max2 a b >>= fun s => Builtin.max2 s c >>= fun s => pure s) := by simp only [Builtin.max_, List.foldlM_cons, List.foldlM_nil]
theorem xX (ats : Array TypeId) (ty : TypeId) (a b c : Value) : Builtin.min_ ats ty #[a, b, c] = (Builtin.min2 a b >>= fun s => Builtin.min2 s c >>= fun s => pure s) := by simp only [Builtin.min_, List.foldlM_cons, List.foldlM_nil]
theorem yB (ats : Array TypeId) (ty : TypeId) (a b c d : Value) : Builtin.max_ ats ty #[a, b, c, d] = (Builtin.max2 a b >>= fun s => Builtin.max2 s c >>= fun s => Builtin.max2 s d >>= fun s => pure s) := by simp only [Builtin.max_, List.foldlM_cons, List.foldlM_nil]
theorem xZ (ats : Array TypeId) (ty : TypeId) (a b c d : Value) : Builtin.min_ ats ty #[a, b, c, d] = (Builtin.min2 a b >>= fun s => Builtin.min2 s c >>= fun s => Builtin.min2 s d >>= fun s => pure s) := by simp only [Builtin.min_, List.foldlM_cons, List.foldlM_nil]
end Go.Proofs.YthdncmagfgoboaaGreatDoorW.PrintMore
namespace Go.Proofs.YthdncmagfgoboaaGreatDoorW.PrintWords
open Go.RowKit
section
variable {P : Program} {ops : Array Oper} {rest : List Oper} {o : Oper} {a : Act} {Q : Exit → Act → World → Prop} {W : World}
theorem cN {f : FuncId} {as : Array Operand} {ts : Array TypeId} (_ho : o.op = .call { callee := .value (.func f), args := as, argTypes := ts }) (h : wpList P ops Q (o :: rest) a W) : wpList P ops Q (o :: rest) a W := h
end
def mx (a b : Int) : Int := if a < b then b else a
def mn (a b : Int) : Int := if b < a then b else a
end Go.Proofs.YthdncmagfgoboaaGreatDoorW.PrintWords
end

section
namespace Go.Proofs.YthdncmagfgoboaaGreatDoorW.PrintLast
open Go.Proofs.YthdncmagfgoboaaGreatDoorW.PrintWords (Aside0)
def gH (md : Region.Mode) (o : Oper) : List Nat := (o.after.toList.filter (fun e => Region.binds md e)).map (fun e => e.on)
def oX (md : Region.Mode) (ops : Array Oper) (i : Nat) (oi : Oper) : List Nat := (List.range ops.size).filter fun j => !(j == i) && match ops[j]? with
 | some oj => !(oj.after.any (fun e => Region.binds md e && e.on == i) || oi.apart ops oj)
 | none => false
def rtab (md : Region.Mode) (ops : Array Oper) : Bool × List (List Nat × List Nat) := (Region.noSelect ops, (List.range ops.size).map fun i => match ops[i]? with
 | some o => (gH md o, oX md ops i o)
 | none => ([], []))
def eP (T : List (List Nat × List Nat)) (l : List Bool) (i : Nat) : Bool := !l.getD i true && match T[i]? with
 | some r => r.1.all (fun j => l.getD j false)
 | none => false
def lE (T : List (List Nat × List Nat)) (l : List Bool) : List Nat := (List.range T.length).filter (eP T l)
def qR (T : List (List Nat × List Nat)) (l : List Bool) (i : Nat) : Bool := match T[i]? with
 | some r => r.2.all (fun j => l.getD j true)
 | none => false
def kG (T : List (List Nat × List Nat)) (l : List Bool) : Bool := (List.range T.length).all fun j => !l.getD j false || match T[j]? with
 | some r => r.1.all (fun k => l.getD k false)
 | none => true
def iU (T : List (List Nat × List Nat)) (i : Nat) : Nat → Nat → Bool
 | 0, _ => false
 | fuel + 1, d => match T[d]? with
  | some r => r.1.any fun j => j == i || iU T i fuel j
  | none => false
def sW (T : List (List Nat × List Nat)) (l : List Bool) (ds : List Nat) (i : Nat) : Bool := ds.all fun d => l.getD d true || iU T i T.length d
section
variable {md : Region.Mode} {ops : Array Oper} {T : Bool × List (List Nat × List Nat)} {l l' li lj lk : Array Bool} {ds : List Nat} {i j k : Nat}
theorem gd (l : Array Bool) (j : Nat) (b : Bool) : l.getD j b = l.toList.getD j b := by simp [Array.getD_eq_getD_getElem?, List.getD_eq_getElem?_getD]
theorem mY (o : Oper) (p : Nat → Bool) : o.after.all (fun e => !Region.binds md e || p e.on) = (gH md o).all p := by
 unfold gH
 rw [← Array.all_toList]
 induction o.after.toList with
 | nil => rfl
 | cons e r ih =>
  rw [List.all_cons, ih, List.filter_cons]
  cases h : Region.binds md e <;> simp
theorem uC (o : Oper) (p : Nat → Bool) : o.after.any (fun e => Region.binds md e && p e.on) = (gH md o).any p := by
 unfold gH
 rw [← Array.any_toList]
 induction o.after.toList with
 | nil => rfl
 | cons e r ih =>
  rw [List.any_cons, ih, List.filter_cons]
  cases h : Region.binds md e <;> simp
theorem eN : (rtab md ops).2.length = ops.size := by simp [rtab]
theorem gE {o : Oper} (h : ops[i]? = some o) : (rtab md ops).2[i]? = some (gH md o, oX md ops i o) := by
 have hi := (Array.getElem?_eq_some_iff.1 h).1
 unfold rtab
 rw [List.getElem?_map, List.getElem?_range hi, Option.map_some, h]
theorem gF (h : ops[i]? = none) : (rtab md ops).2[i]? = none := by
 have hi : ops.size ≤ i := Array.getElem?_eq_none_iff.1 h
 exact List.getElem?_eq_none (by rw [eN]; exact hi)
theorem rS : eP (rtab md ops).2 l.toList i = (!l.getD i true && ((ops[i]?).map (·.after.all fun e => !Region.binds md e || l.getD e.on false)).getD false) := by
 unfold eP
 rw [gd]
 cases h : ops[i]? with
 | none => rw [gF h]; rfl
 | some o =>
  rw [gE h]
  simp only [Option.map_some, Option.getD_some]
  rw [← mY]
  simp only [gd]
theorem lD : Region.ready md ops l = lE (rtab md ops).2 l.toList := by
 unfold Region.ready lE
 rw [eN]
 refine List.filter_congr (fun i _ => ?_)
 rw [rS]
theorem sX : Region.free md ops l i = qR (rtab md ops).2 l.toList i := by
 unfold Region.free qR
 cases h : ops[i]? with
 | none => rw [gF h]
 | some oi =>
  rw [gE h]
  simp only [oX]
  rw [List.all_filter]
  congr 1
  funext j
  rw [gd]
  cases hj : ops[j]? with
  | none => cases (j == i) <;> cases (l.toList.getD j true) <;> simp
  | some oj =>
   cases (j == i) <;> cases (l.toList.getD j true) <;> cases (oj.after.any (fun e => Region.binds md e && e.on == i) || oi.apart ops oj) <;> simp_all
theorem uX : Region.closedB md ops l = kG (rtab md ops).2 l.toList := by
 unfold Region.closedB kG
 rw [eN]
 congr 1
 funext j
 rw [gd]
 cases h : ops[j]? with
 | none => rw [gF h]
 | some o =>
  rw [gE h]
  simp only
  rw [← mY]
  simp only [gd]
theorem pW : ∀ (fuel d : Nat), Region.reachB md ops i fuel d = iU (rtab md ops).2 i fuel d
 | 0, _ => rfl
 | fuel + 1, d => by
  unfold Region.reachB iU
  cases h : ops[d]? with
  | none => rw [gF h]
  | some o =>
   rw [gE h]
   simp only
   rw [← uC]
   congr 1
   funext e
   rw [pW fuel]
theorem last_eq : Region.lastB md ops l ds i = sW (rtab md ops).2 l.toList ds i := by
 unfold Region.lastB sW
 rw [eN]
 congr 1
 funext d
 rw [gd, pW]
theorem jF (h : eP T.2 l.toList i = true) (hT : rtab md ops = T) : (Region.ready md ops l).contains i = true := by
 subst hT
 rw [lD]
 unfold lE
 rw [List.contains_iff_mem, List.mem_filter, List.mem_range]
 refine ⟨?_, h⟩
 unfold eP at h
 rw [Bool.and_eq_true] at h
 cases hq : (rtab md ops).2[i]? with
 | none => rw [hq] at h; simp at h
 | some r => exact (List.getElem?_eq_some_iff.1 hq).1
theorem rK (h : (l.toList.set i true == l'.toList) = true) : (l.setIfInBounds i true == l') = true := by
 rw [beq_iff_eq] at h ⊢
 apply Array.ext'
 rw [Array.toList_setIfInBounds]
 exact h
def anyT (T : Bool × List (List Nat × List Nat)) (l l' : List Bool) (i : Nat) : Bool := T.1 && qR T.2 l i && eP T.2 l i && (l.set i true == l')
theorem cR (hT : rtab md ops = T) (h : anyT T l.toList l'.toList i = true) : anyB md ops l l' i = true := by
 simp only [anyT, Bool.and_eq_true] at h
 obtain ⟨⟨⟨h1, h2⟩, h3⟩, h4⟩ := h
 have h5 := jF h3 hT
 have h6 := rK h4
 subst hT
 simp only [anyB, Bool.and_eq_true]
 exact ⟨⟨⟨h1, by rw [sX]; exact h2⟩, h5⟩, h6⟩
def vD (T : Bool × List (List Nat × List Nat)) (ds : List Nat) (l l' : List Bool) (i : Nat) : Bool := T.1 && qR T.2 l i && eP T.2 l i && kG T.2 l && sW T.2 l ds i && (l.set i true == l')
theorem take_of (hT : rtab md ops = T) (h : vD T ds l.toList l'.toList i = true) : pG md ops ds l l' i = true := by
 simp only [vD, Bool.and_eq_true] at h
 obtain ⟨⟨⟨⟨⟨h1, h2⟩, h3⟩, h4⟩, h5⟩, h6⟩ := h
 have h7 := jF h3 hT
 have h8 := rK h6
 subst hT
 simp only [pG, Bool.and_eq_true]
 exact ⟨⟨⟨⟨⟨h1, by rw [sX]; exact h2⟩, h7⟩, by rw [uX]; exact h4⟩, by rw [last_eq]; exact h5⟩, h8⟩
theorem sC (hT : rtab md ops = T) (h : (lE T.2 l.toList == [i] && l.toList.set i true == l'.toList) = true) : oE md ops l l' i = true := by
 simp only [Bool.and_eq_true] at h
 obtain ⟨h1, h2⟩ := h
 subst hT
 simp only [oE, Bool.and_eq_true]
 exact ⟨by rw [lD]; exact h1, rK h2⟩
theorem oS (hT : rtab md ops = T) (h : (lE T.2 l.toList == []) = true) : (Region.ready md ops l == []) = true := by
 subst hT
 rw [lD]
 exact h
def upM (B : List Nat) (d : Nat) : List Nat → Nat
 | [] => 0
 | n :: r => (2 ^ n ||| (if n < d then B.getD n 0 else 0)) ||| upM B d r
def gX (T : List (List Nat × List Nat)) (B : List Nat) : Bool := (List.range T.length).all fun d => match T[d]? with
 | some r => (B.getD d 0 ||| upM B d r.1) == upM B d r.1
 | none => false
theorem sN {B : List Nat} {d i : Nat} : ∀ {ns : List Nat}, (upM B d ns).testBit i = true → ∃ n ∈ ns, n = i ∨ (n < d ∧ (B.getD n 0).testBit i = true)
 | [], h => by simp [upM] at h
 | n :: r, h => by
  unfold upM at h
  rw [Nat.testBit_or, Nat.testBit_or, Bool.or_eq_true, Bool.or_eq_true] at h
  rcases h with (h | h) | h
  · rw [Nat.testBit_two_pow] at h
    exact ⟨n, List.mem_cons_self, .inl (by simpa using h)⟩
  · by_cases hn : n < d
    · rw [if_pos hn] at h
      exact ⟨n, List.mem_cons_self, .inr ⟨hn, h⟩⟩
    · rw [if_neg hn] at h
      simp at h
  · obtain ⟨m, hm, h2⟩ := sN h
    exact ⟨m, List.mem_cons_of_mem _ hm, h2⟩
theorem mT {T : List (List Nat × List Nat)} {B : List Nat} (hB : gX T B = true) : ∀ (fuel d : Nat), d < fuel → d < T.length → (B.getD d 0).testBit i = true → iU T i fuel d = true
 | 0, d, h, _, _ => by omega
 | fuel + 1, d, h, hd, hb => by
  have h1 := List.all_eq_true.1 hB d (List.mem_range.2 hd)
  cases hr : T[d]? with
  | none => rw [hr] at h1; simp at h1
  | some r =>
   rw [hr] at h1
   simp only [beq_iff_eq] at h1
   have h2 : (upM B d r.1).testBit i = true := by rw [← h1, Nat.testBit_or, hb, Bool.true_or]
   obtain ⟨n, hn, h3⟩ := sN h2
   unfold iU
   rw [hr]
   simp only
   rw [List.any_eq_true]
   refine ⟨n, hn, ?_⟩
   rcases h3 with rfl | ⟨h4, h5⟩
   · simp
   · rw [mT hB fuel n (by omega) (by omega) h5, Bool.or_true]
def lastW (T : List (List Nat × List Nat)) (B : List Nat) (l : List Bool) (ds : List Nat) (i : Nat) : Bool := ds.all fun d => l.getD d true || (decide (d < T.length) && (B.getD d 0).testBit i)
def takeW (T : Bool × List (List Nat × List Nat)) (B : List Nat) (ds : List Nat) (l l' : List Bool) (i : Nat) : Bool := T.1 && qR T.2 l i && eP T.2 l i && kG T.2 l && lastW T.2 B l ds i && (l.set i true == l')
theorem kL {B : List Nat} (hT : rtab md ops = T) (hB : gX T.2 B = true) (h : takeW T B ds l.toList l'.toList i = true) : pG md ops ds l l' i = true := by
 refine take_of hT ?_
 simp only [takeW, vD, Bool.and_eq_true] at h ⊢
 obtain ⟨⟨⟨⟨⟨h1, h2⟩, h3⟩, h4⟩, h5⟩, h6⟩ := h
 refine ⟨⟨⟨⟨⟨h1, h2⟩, h3⟩, h4⟩, ?_⟩, h6⟩
 unfold lastW at h5
 unfold sW
 rw [List.all_eq_true] at h5 ⊢
 intro d hd
 have h7 := h5 d hd
 rw [Bool.or_eq_true, Bool.and_eq_true, decide_eq_true_eq] at h7
 rcases h7 with h7 | ⟨h8, h9⟩
 · rw [h7, Bool.true_or]
 · rw [mT hB _ d h8 h8 h9, Bool.or_true]
theorem iJ {P : Program} {Q : Exit → Act → World → Prop} {S : World → Prop} {n : Nat} {a : Act} {w : World} {B : List Nat} (hT : rtab md ops = T) (hB : gX T.2 B = true) (h : Aside0 (rtab md ops = T) → Aside0 (gX T.2 B = true) → bO P md ops Q S ds n l a w) : bO P md ops Q S ds n l a w := h ⟨hT⟩ ⟨hB⟩
end
def gN : Code → Nat → Option (Array Oper)
 | .region id ops _, k => if id == k then some ops else none
 | .seq a b, k => match gN a k with
  | some o => some o
  | none => gN b k
 | .cond _ a b, k => match gN a k with
  | some o => some o
  | none => gN b k
 | .block _ c, k => gN c k
 | .loop c, k => gN c k
 | .scope c, k => gN c k
 | .rangeFunc _ _ a b, k => match gN a k with
  | some o => some o
  | none => gN b k
 | _, _ => none
def opsOf (f : Func) (k : Nat) : Array Oper := ((f.body.bind fun c => gN c k)).getD #[]
end Go.Proofs.YthdncmagfgoboaaGreatDoorW.PrintLast
end
