import Derived.Test.Qxb6603654aP4
namespace Go.Proofs.Qxb6603654a
open Go.RowKit Go.WideShapes
set_option linter.unusedVariables false
set_option linter.unusedSimpArgs false

/-- the excerpt and the law's own row -/
structure LawAt (W w : World) (B p rg fg fcap : Nat) (name : ByteArray) (ov wv : Value) (out want : List Int) (st : Int) (bad : Bool) (lit : ByteArray) (kept : Bool) : Prop where
  ex : ExAt w B p rg name ov (.slice (some ⟨fg, 0, none⟩) 1 fcap) out st bad lit
  fr : FrAt w B fg fcap rg kept
  wa : w.ownsRow B 5 1 wv want.length (want.map (Value.int .u8))
  ap : ∀ b, ov.ownBlock = some b → wv.ownBlock ≠ some b
  be : Below B W w
  bb : B ≤ w.heap.size
section
variable {W w w' : World} {B p rg fg fcap : Nat} {name : ByteArray} {ov wv : Value} {out want : List Int} {st : Int} {bad kept : Bool} {lit : ByteArray}
theorem LawAt.below (h : LawAt W w B p rg fg fcap name ov wv out want st bad lit kept) (hb : Below w.heap.size w w') : LawAt W w' B p rg fg fcap name ov wv out want st bad lit kept :=
  ⟨h.ex.below hb, h.fr.keptT (hb.block fg h.fr.lt), ownsRow_keptT h.wa (fun g hg _ => hb.block g hg), h.ap, h.be.trans (hb.mono h.bb), Nat.le_trans h.bb hb.size⟩
theorem LawAt.alloc (h : LawAt W w B p rg fg fcap name ov wv out want st bad lit kept) (o : Obj) : LawAt W (w.alloc o) B p rg fg fcap name ov wv out want st bad lit kept := h.below ((Below.refl _ _).alloc (Nat.le_refl _) _)
/-- begin(c) has been made -/
theorem LawAt.begun {ov' : Value} {out' : List Int} {st' : Int} {bad' kept' : Bool} {lit' : ByteArray} (h : LawAt W w B p rg fg fcap name ov wv out want st bad lit kept)
    (hex : ExAt w' B p rg name ov' (.slice (some ⟨fg, 0, none⟩) 1 fcap) out' st' bad' lit') (hfr : FrAt w' B fg fcap rg kept') (hem : Emits w w' (fun b => b = p ∨ b = fg) ov ov') : LawAt W w' B p rg fg fcap name ov' wv out' want st' bad' lit' kept' := by
  have hfg : B ≤ fg := (World.ownsRow.lt h.fr fg rfl).1
  refine ⟨hex, hfr, ownsRow_of_block h.wa (fun g hg => hem.block g (h.wa.lt g hg).2 (fun hS => ?_) (fun e => h.ap g e.symm hg)), fun b hb hw => ?_, h.be.trans (hem.below h.bb (fun b hS => ?_) (fun b hb => (h.ex.row.lt b hb).1)), Nat.le_trans h.bb hem.size⟩
  · obtain ⟨cur, hc⟩ := ownsRow_ne h.wa hg
    rcases hS with e | e
    · obtain ⟨c, hb, _⟩ := h.ex.blk
      rw [e, hb] at hc
      simp at hc
    · obtain ⟨c, hb⟩ := h.fr.block
      rw [e, hb] at hc
      simp at hc
  · rcases hem.move with m | ⟨c, m, hcc⟩
    · exact h.ap b (m ▸ hb) hw
    · have e2 : c = b := by rw [m] at hb; simpa using hb
      have := (h.wa.lt b hw).2
      omega
  · rcases hS with e | e
    · rw [e]; exact h.ex.bp
    · rw [e]; exact hfg
/-- want = append(want, xs...) -/
theorem LawAt.push (h : LawAt W w B p rg fg fcap name ov wv out want st bad lit kept) {xs : List Int} {c cap : Nat} (hc : ∀ j x, xs[j]? = some x → w.cell? ⟨c, j, none⟩ = some (.int .u8 x)) (hx : 0 < xs.length) (hl : want.length + xs.length ≤ 1048576) :
    ∃ g cap' w1, (Builtin.append_ #[22, 22] 22 #[wv, .slice (some ⟨c, 0, none⟩) xs.length cap]).run Try.prog w = .ok (.slice (some ⟨g, 0, none⟩) (want.length + xs.length) cap') w1 ∧
      LawAt W w1 B p rg fg fcap name ov (.slice (some ⟨g, 0, none⟩) (want.length + xs.length) cap') out (want ++ xs) st bad lit kept := by
  obtain ⟨g, cap', w1, hr, ho, hg, hl', hlt⟩ := app22 w B wv want xs c cap h.wa hc hx hl h.bb
  refine ⟨g, cap', w1, hr, ⟨h.ex.blk.of_block (hg.block p h.ex.blk.lt (fun e => ?_)), ownsRow_of_block h.ex.row (fun b hb => hg.block b (h.ex.row.lt b hb).2 (fun e => h.ap b hb e.symm)), h.ex.root.of_block (hg.block rg h.ex.root.lt (fun e => ?_)), h.ex.bp, h.ex.br⟩, h.fr.keptT (hg.block fg h.fr.lt (fun e => ?_)), ho, fun b hb hw => ?_, h.be.grown hg h.bb (fun k hk => (h.wa.lt k hk).1), Nat.le_trans h.bb hg.size⟩
  · obtain ⟨cur, hcu⟩ := ownsRow_ne h.wa e.symm
    obtain ⟨c, hb, _⟩ := h.ex.blk
    rw [hb] at hcu
    simp at hcu
  · obtain ⟨cur, hcu⟩ := ownsRow_ne h.wa e.symm
    obtain ⟨c, hb, _⟩ := h.ex.root
    rw [hb] at hcu
    simp at hcu
  · obtain ⟨cur, hcu⟩ := ownsRow_ne h.wa e.symm
    obtain ⟨c, hb⟩ := h.fr.block
    rw [hb] at hcu
    simp at hcu
  · simp only [Value.ownBlock, Option.some.injEq] at hw
    subst hw
    rcases hl' with e | e
    · exact h.ap g hb e
    · have := (h.ex.row.lt g hb).2
      omega
end
theorem byte4' (w : World) : ∀ (j : Nat) (y : Int), ([110, 117, 108, 108] : List Int)[j]? = some y → (w.alloc (.cells #[.int .u8 110, .int .u8 117, .int .u8 108, .int .u8 108] 5)).cell? ⟨w.heap.size, j, none⟩ = some (.int .u8 y) := fun j y h => by
  have := (MapKept.heap_alloc w (.cells #[.int .u8 110, .int .u8 117, .int .u8 108, .int .u8 108] 5)).1
  match j, h with
  | 0, h => simp at h; subst h; unfold World.cell?; rw [this]; rfl
  | 1, h => simp at h; subst h; unfold World.cell?; rw [this]; rfl
  | 2, h => simp at h; subst h; unfold World.cell?; rw [this]; rfl
  | 3, h => simp at h; subst h; unfold World.cell?; rw [this]; rfl
theorem kN4 {c : Int} (h : kN c = 4) (lit : ByteArray) (bad : Bool) : litN lit c = lit ∧ (bad || badN c) = bad := by
  unfold kN at h
  by_cases k1 : c = 34
  · simp [k1] at h
  by_cases k2 : c = 45
  · subst k2; simp [litN, badN]
  by_cases k4 : 48 ≤ c ∧ c ≤ 57
  · have k5 : ¬ c = 116 := by omega
    have k6 : ¬ c = 102 := by omega
    have k7 : ¬ c = 110 := by omega
    simp [litN, badN, k5, k6, k7, k4.1, k4.2]
  · simp only [k1, k2, k4, if_false] at h
    split at h <;> omega
theorem kN0 {c : Int} (h : kN c = 0) (st : Int) (lit : ByteArray) (bad : Bool) : stN st c = st ∧ litN lit c = lit ∧ (bad || badN c) = true := by
  unfold kN at h
  by_cases k1 : c = 34
  · simp [k1] at h
  by_cases k2 : c = 45
  · simp [k1, k2] at h
  by_cases k4 : 48 ≤ c ∧ c ≤ 57
  · simp [k1, k2, k4] at h
  by_cases k5 : c = 116 ∨ c = 102 ∨ c = 110
  · simp [k1, k2, k4, k5] at h
  · have k3 : ¬ c = 48 := by omega
    have k6 : ¬ c = 116 := fun e => k5 (.inl e)
    have k7 : ¬ c = 102 := fun e => k5 (.inr (.inl e))
    have k8 : ¬ c = 110 := fun e => k5 (.inr (.inr e))
    refine ⟨by simp [stN, k1, k2, k3, k4, k5], by simp [litN, k6, k7, k8], ?_⟩
    have : badN c = true := by
      simp [badN, k1, k2, k6, k7, k8]
      omega
    simp [this]
theorem kN_cases {c : Int} : c = 34 ∨ kN c = 4 ∨ c = 116 ∨ c = 102 ∨ c = 110 ∨ kN c = 0 := by
  unfold kN
  by_cases k1 : c = 34
  · exact .inl k1
  by_cases k2 : c = 45
  · simp [k1, k2]
  by_cases k4 : 48 ≤ c ∧ c ≤ 57
  · simp [k1, k2, k4]
  by_cases k5 : c = 116 ∨ c = 102 ∨ c = 110
  · rcases k5 with h | h | h
    · exact .inr (.inr (.inl h))
    · exact .inr (.inr (.inr (.inl h)))
    · exact .inr (.inr (.inr (.inr (.inl h))))
  · simp [k1, k2, k4, k5]
end Go.Proofs.Qxb6603654a
