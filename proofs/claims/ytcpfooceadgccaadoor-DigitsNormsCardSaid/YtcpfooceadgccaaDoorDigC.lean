/- The program's layer of digits: the order. -/
import Derived.Test.YtcpfooceadgccaaDoorXDC1
namespace Go.Proofs.YtcpfooceadgccaaDoor
open Go.RowKit
set_option linter.unusedVariables false
set_option linter.unusedSimpArgs false

theorem Dig.norm_neg (x : Dig.Dec) (h : (Dig.norm x).d = []) : (Dig.norm x).neg = false := by
  have := Dig.norm_d x
  unfold Dig.norm at h ⊢
  split
  · rfl
  · rename_i hc
    rw [if_neg hc] at h
    exact absurd h hc

/-- the order by the sizes -/
theorem Dig.cmp_psize (a b : Dig.Dec) : Dig.cmp a b = if (Dig.norm a).neg = true then (if (Dig.norm b).neg = true then Dig.psize (Dig.norm b) (Dig.norm a) else -1) else if (Dig.norm b).neg = true then 1 else Dig.psize (Dig.norm a) (Dig.norm b) := by
  have ha := Dig.norm_neg a
  have hb := Dig.norm_neg b
  unfold Dig.cmp
  generalize Dig.norm a = x at *
  generalize Dig.norm b = y at *
  obtain ⟨sx, dx, ex⟩ := x
  obtain ⟨sy, dy, ey⟩ := y
  simp only at ha hb
  have hx0 : dx ≠ [] → min dx.length 1 = 1 := fun h => by have := List.length_pos_iff.2 h; omega
  have hy0 : dy ≠ [] → min dy.length 1 = 1 := fun h => by have := List.length_pos_iff.2 h; omega
  unfold Dig.cmpN Dig.psize
  cases sx <;> cases sy <;> by_cases h1 : dx = [] <;> by_cases h2 : dy = [] <;> simp [h1, h2] at ha hb ⊢ <;> first | done | (have := hx0 h1; omega) | (have := hy0 h2; omega) | skip

theorem pcmp_any (a b : Dig.Dec) (w : World) (hl : a.d.length ≤ 1000000000000) (he : a.e ≤ 1000000000000) (he' : -1000000000000 ≤ a.e) (hlb : b.d.length ≤ 1000000000000) (heb : b.e ≤ 1000000000000) (heb' : -1000000000000 ≤ b.e) :
    Calls Tryd.prog 26 #[dec a, dec b] w fun e w' => e = .returned (.int .i64 (Dig.cmp a b)) ∧ Touch [] w w' := by
  refine (XDC.digits_Cmp.calls 5 a.neg (str a.d) a.e b.neg (str b.d) b.e (Dig.cmp a b) w ?_).mono fun _ _ h => ⟨h.1, Touch.of_below h.2 _⟩
  have na : XDC.digits_Norm.f a.neg (str a.d) a.e = some ((Dig.norm a).neg, str (Dig.norm a).d, (Dig.norm a).e) := by
    unfold XDC.digits_Norm.f
    rw [if_pos ⟨hl, he, he'⟩]; rfl
  have nb : XDC.digits_Norm.f b.neg (str b.d) b.e = some ((Dig.norm b).neg, str (Dig.norm b).d, (Dig.norm b).e) := by
    unfold XDC.digits_Norm.f
    rw [if_pos ⟨hlb, heb, heb'⟩]; rfl
  have ba := Dig.norm_e_bound a hl he he'
  have bb := Dig.norm_e_bound b hlb heb heb'
  have la : (str (Dig.norm a).d).size ≤ 1000000000000 := by rw [str_size, Dig.norm_d]; exact Nat.le_trans (Dig.core_le _) hl
  have lb : (str (Dig.norm b).d).size ≤ 1000000000000 := by rw [str_size, Dig.norm_d]; exact Nat.le_trans (Dig.core_le _) hlb
  have s1 : XDC.digits_size.f (Dig.norm a).neg (str (Dig.norm a).d) (Dig.norm a).e (Dig.norm b).neg (str (Dig.norm b).d) (Dig.norm b).e = some (Dig.psize (Dig.norm a) (Dig.norm b)) := by
    unfold XDC.digits_size.f
    rw [if_pos ⟨⟨la, ba.1, ba.2⟩, lb, bb.1, bb.2⟩]; rfl
  have s2 : XDC.digits_size.f (Dig.norm b).neg (str (Dig.norm b).d) (Dig.norm b).e (Dig.norm a).neg (str (Dig.norm a).d) (Dig.norm a).e = some (Dig.psize (Dig.norm b) (Dig.norm a)) := by
    unfold XDC.digits_size.f
    rw [if_pos ⟨⟨lb, bb.1, bb.2⟩, la, ba.1, ba.2⟩]; rfl
  unfold XDC.digits_Cmp.f
  rw [na, Option.bind_some, nb, Option.bind_some, Dig.cmp_psize]
  simp only [XDC.digits_Cmp.j0]
  clear na nb ba bb la lb
  cases h1 : (Dig.norm a).neg <;> cases h2 : (Dig.norm b).neg <;> rw [h1, h2] at s1 s2 <;> simp [s1, s2]
end Go.Proofs.YtcpfooceadgccaaDoor
