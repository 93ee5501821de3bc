import Derived.Test.Qxb6603820aK3
namespace Go.Proofs.Qxb6603820a
open Go.RowKit Go.WideShapes
set_option linter.unusedVariables false
set_option linter.unusedSimpArgs false

def ekI (x : Nat) : Value := .int .i64 (x : Int)
def OwnI (w : World) (B : Nat) (v : Value) (S : List Nat) : Prop := w.ownsRow B 3 1 v S.length (S.map ekI)
section
variable {w w' : World} {B : Nat} {v : Value} {S : List Nat}
theorem OwnI.form (h : OwnI w B v S) : ∃ a c, v = .slice a S.length c := ownsRow_form h
theorem OwnI.below {B' : Nat} (h : OwnI w B v S) (hb : Below B' w w') (hB : w.heap.size ≤ B') : OwnI w' B v S := ownsRow_keptT h (fun g hg _ => hb.block g (by omega))
theorem OwnI.setOther (h : OwnI w B v S) {g i : Nat} (u : Value) (hg : g < B) : OwnI (w.setCell ⟨g, i, none⟩ u) B v S := ownsRow_setCell_below h (a := ⟨g, i, none⟩) hg u
theorem OwnI.drop {a : Option Addr} {n c : Nat} (h : OwnI w B (.slice a n c) S) : OwnI w B (.slice a 0 c) [] := by
  refine ⟨rfl, ?_⟩
  rcases h.2 with ⟨e, h0⟩ | ⟨g, cap, cur, e, hb, hg, hn, hc, hs, ht⟩
  · simp at e
    obtain ⟨rfl, _, rfl⟩ := e
    exact .inl ⟨rfl, rfl⟩
  · simp at e
    obtain ⟨rfl, _, rfl⟩ := e
    exact .inr ⟨g, c, cur, rfl, hb, hg, Nat.zero_le _, hc, hs, by simp⟩
theorem OwnI.pop {a : Option Addr} {n c j : Nat} (h : OwnI w B (.slice a n c) (S ++ [j])) : (∃ g, a = some ⟨g, 0, none⟩ ∧ w.cell? ⟨g, S.length, none⟩ = some (.int .i64 j)) ∧ n = S.length + 1 ∧ S.length + 1 ≤ c ∧ OwnI w B (.slice a S.length c) S := by
  rcases h.2 with ⟨e, h0⟩ | ⟨g, cap, cur, e, hb, hg, hn, hc, hs, ht⟩
  · simp at h0
  · simp at e
    obtain ⟨rfl, rfl, rfl⟩ := e
    refine ⟨⟨g, rfl, ?_⟩, rfl, by simpa using hn, by simp, .inr ⟨g, c, cur, rfl, hb, hg, by simp at hn; omega, hc, hs, ?_⟩⟩
    · have h' : w.ownsRow B 3 1 (.slice (some ⟨g, 0, none⟩) (S ++ [j]).length c) (S ++ [j]).length ((S ++ [j]).map ekI) := by
        have e : (S ++ [j]).length = S.length + 1 := by simp
        have h2 : w.ownsRow B 3 1 (.slice (some ⟨g, 0, none⟩) (S.length + 1) c) (S ++ [j]).length ((S ++ [j]).map ekI) := h
        rw [e] at h2 ⊢
        exact h2
      rw [World.ownsRow.cellAt h' S.length (by simp)]
      simp [ekI]
    · have := congrArg (List.take S.length) ht
      rw [List.take_take] at this
      rw [List.map_append, List.take_left' (by simp)] at this
      rw [← this]
      congr 1
      simp
end
theorem app26 (w : World) (B : Nat) (v : Value) (S : List Nat) (x c : Nat) (hown : OwnI w B v S) (hc : w.cell? ⟨c, 0, none⟩ = some (.int .i64 (x : Int))) (hl : S.length ≤ 1048576) (hb : B ≤ w.heap.size) :
    ∃ g cap' w', (Builtin.append_ #[26, 26] 26 #[v, .slice (some ⟨c, 0, none⟩) 1 1]).run Try.prog w = .ok (.slice (some ⟨g, 0, none⟩) (S.length + 1) cap') w' ∧
      OwnI w' B (.slice (some ⟨g, 0, none⟩) (S.length + 1) cap') (S ++ [x]) ∧ w.grownBy w' v.ownBlock := by
  obtain ⟨i, hi, hz, h1, h2⟩ := info_parts Try.info3
  obtain ⟨g, cap', w', hr, ho, hg, hl', hlt⟩ := run_append_lies (P := Try.prog) w 26 26 B 3 i _ 1 8 Try.underlying26 hi hz h1 h2 rfl (by omega) v S.length (S.map ekI) hown ⟨c, 0, none⟩ 1 1 [ekI x] rfl
    (fun j u hj => by
      match j, hj with
      | 0, hj => simp at hj; subst hj; simpa [Addr.add, ekI] using hc)
    (fun u hu => by simp at hu; subst hu; rfl) (by omega) (by unfold maxLen; omega) (by omega) hb w.heap.size rfl
  refine ⟨g, cap', w', hr, ?_, hg⟩
  unfold OwnI
  simpa using ho
def Edge (n : Nat) (RL : Nat → Nat) (X : Nat → Nat → Int) (u v : Nat) : Prop := u < n ∧ ∃ k, k < RL u ∧ X u k = (v : Int)
theorem snoc_cases (S : List Nat) : S = [] ∨ ∃ S' j, S = S' ++ [j] := by
  rcases List.eq_nil_or_concat S with h | ⟨S', j, h⟩
  · exact .inl h
  · exact .inr ⟨S', j, by simpa using h⟩
end Go.Proofs.Qxb6603820a
