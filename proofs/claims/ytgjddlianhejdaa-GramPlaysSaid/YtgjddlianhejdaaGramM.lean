/- The grammar's machine, in plain numbers and lists. -/
namespace Go.Proofs.Ytgjddlianhejdaa

/-- what is open (6: a list, 8: an object), what is wanted (0 value, 1 item, 2 member, 3 name, 4 colon, 5 more, 6 nothing). -/
structure Gr where
  op : List Int
  want : Int
  deriving DecidableEq

def Gr.top (G : Gr) : Int := G.op.getLastD 0
def valueK (k : Int) : Bool := decide (1 ≤ k) && decide (k ≤ 6) || k == 8
def Gr.may (G : Gr) (k : Int) : Bool :=
  if G.want = 0 then valueK k
  else if G.want = 1 then k == 7 || valueK k
  else if G.want = 2 then k == 9 || k == 5
  else if G.want = 3 then k == 5
  else if G.want = 4 then k == 10
  else if G.want = 5 then k == 11 || G.top == 6 && k == 7 || G.top == 8 && k == 9
  else false
def Gr.done (op : List Int) : Gr := ⟨op, if op = [] then 6 else 5⟩
def Gr.name (G : Gr) : Bool := G.want == 2 || G.want == 3
def Gr.take (G : Gr) (k : Int) : Gr :=
  if G.may k then
    if k = 6 then ⟨G.op ++ [6], 1⟩
    else if k = 8 then ⟨G.op ++ [8], 2⟩
    else if k = 7 ∨ k = 9 then Gr.done G.op.dropLast
    else if k = 10 then ⟨G.op, 0⟩
    else if k = 11 then ⟨G.op, if G.top = 8 then 3 else 0⟩
    else if k = 5 ∧ G.name = true then ⟨G.op, 4⟩
    else Gr.done G.op
  else G

structure Gr.Ok (G : Gr) : Prop where
  want : 0 ≤ G.want ∧ G.want ≤ 6
  elems : ∀ x ∈ G.op, x = 6 ∨ x = 8
  item : G.want = 1 → G.top = 6
  member : G.want = 2 ∨ G.want = 3 ∨ G.want = 4 → G.top = 8
  more : G.want = 5 → G.op ≠ []
  nothing : G.want = 6 → G.op = []
  value : G.want = 0 → True

theorem Gr.top_append (op : List Int) (k w : Int) : Gr.top ⟨op ++ [k], w⟩ = k := by simp [Gr.top]
theorem Gr.top_mem {G : Gr} (h : G.op ≠ []) : G.top ∈ G.op := by
  unfold Gr.top
  rw [List.getLastD_eq_getLast?, List.getLast?_eq_some_getLast h]
  exact List.getLast_mem h
theorem Gr.ne_of_top {G : Gr} (h : G.top ≠ 0) : G.op ≠ [] := by
  rintro h'
  simp [Gr.top, h'] at h
theorem Gr.done_ok {op : List Int} (h : ∀ x ∈ op, x = 6 ∨ x = 8) : (Gr.done op).Ok := by
  unfold Gr.done
  by_cases ho : op = []
  · subst ho; constructor <;> simp
  · rw [if_neg ho]; constructor <;> simp [ho]; exact h
theorem Gr.take_ok {G : Gr} (h : G.Ok) (k : Int) : (G.take k).Ok := by
  unfold Gr.take
  split
  · rename_i hm
    split
    · constructor <;> simp [Gr.top_append]
      intro x hx
      rcases hx with hx | hx
      · exact h.elems x hx
      · exact .inl hx
    split
    · constructor <;> simp [Gr.top_append]
      intro x hx
      rcases hx with hx | hx
      · exact h.elems x hx
      · exact .inr hx
    split
    · exact Gr.done_ok fun x hx => h.elems x ((List.dropLast_sublist _).subset hx)
    split
    · exact ⟨by simp, h.elems, by simp, by simp, by simp, by simp, by simp⟩
    split
    · rename_i h11
      subst h11
      by_cases ht : G.top = 8
      · rw [if_pos ht]
        refine ⟨by simp, h.elems, by simp, fun _ => ht, by simp, by simp, by simp⟩
      · rw [if_neg ht]
        exact ⟨by simp, h.elems, by simp, by simp, by simp, by simp, by simp⟩
    split
    · rename_i h5
      have hw : G.want = 2 ∨ G.want = 3 := by simpa [Gr.name] using h5.2
      refine ⟨by simp, h.elems, by simp, fun _ => h.member (by omega), by simp, by simp, by simp⟩
    · exact Gr.done_ok h.elems
  · exact h
/-- what is closed is open. -/
theorem Gr.close_open {G : Gr} (h : G.Ok) {k : Int} (hm : G.may k = true) (hk : k = 7 ∨ k = 9) : G.op ≠ [] := by
  have hw := h.want
  by_cases h1 : G.want = 1
  · exact Gr.ne_of_top (by rw [h.item h1]; omega)
  by_cases h2 : G.want = 2
  · exact Gr.ne_of_top (by rw [h.member (.inl h2)]; omega)
  by_cases h5 : G.want = 5
  · exact h.more h5
  exfalso
  unfold Gr.may at hm
  rcases hk with rfl | rfl
  all_goals
    by_cases h0 : G.want = 0
    · simp [h0, valueK] at hm
    by_cases h3 : G.want = 3
    · simp [h3] at hm
    by_cases h4 : G.want = 4
    · simp [h4] at hm
    simp [h0, h1, h2, h3, h4, h5] at hm
end Go.Proofs.Ytgjddlianhejdaa
