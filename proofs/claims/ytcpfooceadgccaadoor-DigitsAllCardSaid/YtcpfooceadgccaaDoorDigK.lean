/- The reference's layer of digits: the order. -/
import Derived.Test.YtcpfooceadgccaaDoorXDR2
import Derived.Test.YtcpfooceadgccaaDoorDigC
namespace Go.Proofs.YtcpfooceadgccaaDoor
open Go.RowKit
set_option linter.unusedVariables false
set_option linter.unusedSimpArgs false

theorem rcmp_any (a b : Dig.Dec) (w : World) (hl : a.d.length ≤ 1000000000000) (he : a.e ≤ 1000000000000) (he' : -1000000000000 ≤ a.e) (hlb : b.d.length ≤ 1000000000000) (heb : b.e ≤ 1000000000000) (heb' : -1000000000000 ≤ b.e) :
    Calls Tryd.prog 27 #[dec a, dec b] w fun e w' => e = .returned (.int .i64 (Dig.cmp a b)) ∧ Touch [] w w' := by
  refine (XDR.orthoepyref10_Cmp.calls 9 a.neg (str a.d) a.e b.neg (str b.d) b.e (Dig.cmp a b) w ?_).mono fun _ _ h => ⟨h.1, Touch.of_below h.2 _⟩
  have na : XDR.orthoepyref10_Norm.f a.neg (str a.d) a.e = some ((Dig.norm a).neg, str (Dig.norm a).d, (Dig.norm a).e) := by
    unfold XDR.orthoepyref10_Norm.f
    rw [if_pos ⟨hl, he, he'⟩]; rfl
  have nb : XDR.orthoepyref10_Norm.f b.neg (str b.d) b.e = some ((Dig.norm b).neg, str (Dig.norm b).d, (Dig.norm b).e) := by
    unfold XDR.orthoepyref10_Norm.f
    rw [if_pos ⟨hlb, heb, heb'⟩]; rfl
  have ba := Dig.norm_e_bound a hl he he'
  have bb := Dig.norm_e_bound b hlb heb heb'
  have la : (str (Dig.norm a).d).size ≤ 1000000000000 := by rw [str_size, Dig.norm_d]; exact Nat.le_trans (Dig.core_le _) hl
  have lb : (str (Dig.norm b).d).size ≤ 1000000000000 := by rw [str_size, Dig.norm_d]; exact Nat.le_trans (Dig.core_le _) hlb
  have s1 : XDR.orthoepyref10_size.f (Dig.norm a).neg (str (Dig.norm a).d) (Dig.norm a).e (Dig.norm b).neg (str (Dig.norm b).d) (Dig.norm b).e = some (Dig.size (Dig.norm a) (Dig.norm b)) := by
    unfold XDR.orthoepyref10_size.f
    rw [if_pos ⟨⟨la, ba.1, ba.2⟩, lb, bb.1, bb.2⟩]; rfl
  have s2 : XDR.orthoepyref10_size.f (Dig.norm b).neg (str (Dig.norm b).d) (Dig.norm b).e (Dig.norm a).neg (str (Dig.norm a).d) (Dig.norm a).e = some (Dig.size (Dig.norm b) (Dig.norm a)) := by
    unfold XDR.orthoepyref10_size.f
    rw [if_pos ⟨⟨lb, bb.1, bb.2⟩, la, ba.1, ba.2⟩]; rfl
  unfold XDR.orthoepyref10_Cmp.f
  rw [na, Option.bind_some, nb, Option.bind_some]
  unfold Dig.cmp
  clear na nb ba bb la lb
  generalize Dig.norm a = x at *
  generalize Dig.norm b = y at *
  obtain ⟨sx, dx, ex⟩ := x
  obtain ⟨sy, dy, ey⟩ := y
  have zx : ((str dx).size : Int) = 0 ↔ dx = [] := by rw [str_size]; simp
  have zy : ((str dy).size : Int) = 0 ↔ dy = [] := by rw [str_size]; simp
  have zy' : (((str dy).size : Int) == 0) = decide (dy = []) := by rw [str_size]; cases dy <;> simp <;> omega
  have zx' : (((str dx).size : Int) == 0) = decide (dx = []) := by rw [str_size]; cases dx <;> simp <;> omega
  simp only [XDR.orthoepyref10_Cmp.j0, XDR.orthoepyref10_Cmp.j1, XDR.orthoepyref10_Cmp.j2, XDR.orthoepyref10_Cmp.j3, zx, zy, zx', zy', Dig.cmpN, s1, s2]
  cases sx <;> cases sy <;> by_cases h1 : dx = [] <;> by_cases h2 : dy = [] <;> simp [h1, h2]
end Go.Proofs.YtcpfooceadgccaaDoor
