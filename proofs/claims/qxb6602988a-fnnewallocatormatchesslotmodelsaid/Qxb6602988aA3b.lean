/-
  The allocator's two appends, as run equations for the walk.
-/
import Derived.Test.Qxb6602988aA3
namespace Go.Proofs.Qxb6602988a
open Go.RowKit
set_option linter.unusedVariables false
set_option linter.unusedSimpArgs false

theorem zero51 (w : World) : (zeroValue 51).run Try.prog w = .ok (evH none) w := by kernel_rfl
theorem evH_form (h : Option (Nat × Nat × Nat)) : ∃ a n c, evH h = .slice a n c := by
  cases h with
  | none => exact ⟨_, _, _, rfl⟩
  | some x => exact ⟨_, _, _, rfl⟩
theorem ownsRow_form {w : World} {base : Nat} {e : TypeId} {size n : Nat} {v : Value} {xs : List Value} (h : w.ownsRow base e size v n xs) : ∃ a c, v = .slice a n c := by
  rcases h.2 with ⟨rfl, rfl⟩ | ⟨g, cap, cur, rfl, _⟩
  · exact ⟨_, _, rfl⟩
  · exact ⟨_, _, rfl⟩

section
variable {w : World} {base p N low mo mh tg : Nat} {fv : Value} {Lof : List (Verd × Nat)} {fr : List Nat} {tk : Nat → Bool} {Lh : List (Verd × Option (Nat × Nat × Nat))} {grp : List (Verd × List Nat)}

/-- 'a.free = append(a.free, x)' -/
theorem AllocAt.free_step (h : AllocAt w base p N low mo mh tg fv Lof fr tk Lh grp) (hb : base ≤ w.heap.size) {c x : Nat} (hc : w.cell? ⟨c, 0, none⟩ = some (.int .u32 (x : Int))) (hl : fr.length ≤ 1048576) :
    ∃ g cap w2, (Builtin.append_ #[51, 51] 51 #[fv, .slice (some ⟨c, 0, none⟩) 1 1]).run Try.prog w = .ok (.slice (some ⟨g, 0, none⟩) (fr.length + 1) cap) w2 ∧ w2.cell? ⟨p, 1, none⟩ = some fv ∧ w2.frozen? ⟨p, 1, none⟩ = false ∧
      AllocAt (w2.setCell ⟨p, 1, none⟩ (.slice (some ⟨g, 0, none⟩) (fr.length + 1) cap)) base p N low mo mh tg (.slice (some ⟨g, 0, none⟩) (fr.length + 1) cap) Lof (fr ++ [x]) tk Lh grp ∧
      Below base w (w2.setCell ⟨p, 1, none⟩ (.slice (some ⟨g, 0, none⟩) (fr.length + 1) cap)) := by
  obtain ⟨g, cap, w2, hr, ho, hg, hl', hlt⟩ := app51 51 w base fv fr x c h.free hc hl hb
  have hp : w2.heap[p]? = w.heap[p]? := hg.block p h.blk.lt (fun e => by
    obtain ⟨cur, hc⟩ := ownsRow_ne h.free e.symm
    obtain ⟨c, hb, _⟩ := h.blk
    rw [hb] at hc
    simp at hc)
  have hblk := h.blk.of_block hp
  exact ⟨g, cap, w2, hr, hblk.cell (i := 1) (by omega), hblk.frozen 1, h.free_push hg hl' ho, ((Below.refl _ _).grown hg hb (fun k hk => (h.free.lt k hk).1)).setCell h.big.1 _⟩

/-- 'a.holding[v] = append(a.holding[v], x)' -/
theorem AllocAt.hold_step (h : AllocAt w base p N low mo mh tg fv Lof fr tk Lh grp) (hb : base ≤ w.heap.size) {c x : Nat} (hc : w.cell? ⟨c, 0, none⟩ = some (.int .u32 (x : Int))) {v : Verd} {l : Lit} (hk : keyOf Try.prog 57 (evV v) = some l) (hl : ((aget grp v).getD []).length ≤ 1048576) :
    ∃ a n cc st w5 g cap w6 w7 Lh', (Instr.mapEntry 83 (.map (some mh)) (evV v)).run Try.prog w = .ok (.tuple #[.slice a n cc, .int .i64 st]) w5 ∧
      (Builtin.append_ #[51, 51] 51 #[.slice a n cc, .slice (some ⟨c, 0, none⟩) 1 1]).run Try.prog w5 = .ok (.slice (some ⟨g, 0, none⟩) (((aget grp v).getD []).length + 1) cap) w6 ∧
      (Instr.entryStore 83 (.map (some mh)) (.int .i64 st) (.slice (some ⟨g, 0, none⟩) (((aget grp v).getD []).length + 1) cap)).run Try.prog w6 = .ok () w7 ∧
      AllocAt w7 base p N low mo mh tg fv Lof fr tk Lh' (aput grp v (((aget grp v).getD []) ++ [x])) ∧ Below base w w5 ∧ Below base w w6 ∧ Below base w w7 ∧
      (∀ b, b < w.heap.size → (∀ cur, w.heap[b]? ≠ some (.cells cur 42 (0, 0))) → b ≠ mh → w5.heap[b]? = w.heap[b]? ∧ w6.heap[b]? = w.heap[b]? ∧ w7.heap[b]? = w.heap[b]?) := by
  obtain ⟨w5, st, hent, ht5, hm5, hback⟩ := h.hold.entry law57 evV_inj Try.underlying83 (z := none) (zero51 w) hk
  obtain ⟨a, n, cc, he⟩ := evH_form ((aget Lh v).getD none)
  obtain ⟨esh, clh, hbh, _⟩ := h.hold.block
  have g5 := ht5.grown
  -- what the element owns, behind mapEntry
  have hown : w5.ownsRow base 42 1 (evH ((aget Lh v).getD none)) ((aget grp v).getD []).length (((aget grp v).getD []).map ekN) := by
    have hs := aget_isSome_of_keys h.keys v
    cases hx : aget Lh v with
    | none =>
      rw [hx] at hs
      have hgn : aget grp v = none := by
        cases hy : aget grp v with
        | none => rfl
        | some z => rw [hy] at hs; simp at hs
      rw [hgn]
      exact World.ownsRow_nil _ _ _ _
    | some y =>
      obtain ⟨ns, h1, h2⟩ := h.rows v y hx
      rw [h1]
      refine ownsRow_of_block h2 (fun b hb => g5.block b (h2.lt b hb).2 (fun e => ?_))
      obtain ⟨cur, hcu⟩ := ownsRow_ne h2 hb
      cases e
      rw [hbh] at hcu
      simp at hcu
  have hc5 : w5.cell? ⟨c, 0, none⟩ = some (.int .u32 (x : Int)) := g5.cell hc (fun e => by
    have hcc : c = mh := Option.some.inj e
    rw [hcc] at hc
    simp [World.cell?, hbh] at hc)
  obtain ⟨g, cap, w6, hr, ho, hg, hl', hlt⟩ := app51 51 w5 base _ ((aget grp v).getD []) x c hown hc5 hl (Nat.le_trans hb g5.size)
  have hmh6 : w6.heap[mh]? = w5.heap[mh]? := hg.block mh (Nat.lt_of_lt_of_le h.hold.lt g5.size) (fun e => by
    obtain ⟨cur, hcu⟩ := ownsRow_ne hown e.symm
    obtain ⟨es5, c5, hb5, _⟩ := hm5.block
    rw [hb5] at hcu
    simp at hcu)
  obtain ⟨w7, hst, ht7, hm7⟩ := hback w6 (some (g, ((aget grp v).getD []).length + 1, cap)) hmh6
  have b5 : Below base w w5 := (Below.refl _ _).grown g5 hb (fun j hj => by cases hj; exact h.big.2.2.1)
  have b6 : Below base w w6 := b5.grown hg (Nat.le_trans hb g5.size) (fun j hj => (hown.lt j hj).1)
  have b7 : Below base w w7 := b6.grown ht7.grown (Nat.le_trans hb (Nat.le_trans g5.size hg.size)) (fun j hj => by cases hj; exact h.big.2.2.1)
  refine ⟨a, n, cc, st, w5, g, cap, w6, w7, _, by rw [← he]; exact hent, by rw [← he]; exact hr, hst, h.hold_push ht5 hg hl' ho ht7 hm7, b5, b6, b7, fun b h1 h2 h3 => ?_⟩
  have e5 : w5.heap[b]? = w.heap[b]? := g5.block b h1 (by simpa using h3)
  have e6 : w6.heap[b]? = w5.heap[b]? := hg.block b (Nat.lt_of_lt_of_le h1 g5.size) (fun e => by
    obtain ⟨cur, hcu⟩ := ownsRow_ne hown e.symm
    rw [e5] at hcu
    exact h2 cur hcu)
  have e7 : w7.heap[b]? = w6.heap[b]? := ht7.grown.block b (Nat.lt_of_lt_of_le h1 (Nat.le_trans g5.size hg.size)) (by simpa using h3)
  exact ⟨e5, e6.trans e5, (e7.trans e6).trans e5⟩
end
end Go.Proofs.Qxb6602988a
