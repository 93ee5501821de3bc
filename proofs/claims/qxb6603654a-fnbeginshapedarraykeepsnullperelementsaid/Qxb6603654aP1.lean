import Derived.Test.Qxb6603654aRowB
namespace Go.Proofs.Qxb6603654a
open Go.RowKit Go.WideShapes
set_option linter.unusedVariables false
set_option linter.unusedSimpArgs false

/-- the excerpt's cells -/
def ecells (ov sv : Value) (st : Int) (fl : Bool) (lit : ByteArray) (rg : Nat) : Nat → Value
  | 0 => ov | 1 => sv | 2 => .int .i64 st | 3 => .bool fl | 4 => .int .i64 0 | 5 => .string lit | 6 => .bool false | 7 => .slice none 0 0 | 8 => .int .i64 0 | _ => .slice (some ⟨rg, 0, none⟩) 1 1
def rcells (name : ByteArray) : Nat → Value
  | 0 => .string name | _ => .slice none 0 0
structure ExAt (w : World) (B p rg : Nat) (name : ByteArray) (ov sv : Value) (out : List Int) (st : Int) (bad : Bool) (lit : ByteArray) : Prop where
  blk : RowB w p 48 10 (ecells ov sv st (bad || decide (65536 < out.length)) lit rg)
  row : w.ownsRow B 5 1 ov out.length (out.map (Value.int .u8))
  root : RowB w rg 42 2 (rcells name)
  bp : B ≤ p
  br : B ≤ rg
/-- only blocks of S and the block of ov have turned; ov' is where ov was or is new -/
structure Emits (w w' : World) (S : Nat → Prop) (ov ov' : Value) : Prop where
  os : w'.os = w.os
  tape : w'.tape = w.tape
  output : w'.output = w.output
  size : w.heap.size ≤ w'.heap.size
  block : ∀ b, b < w.heap.size → ¬ S b → some b ≠ ov.ownBlock → w'.heap[b]? = w.heap[b]?
  move : ov'.ownBlock = ov.ownBlock ∨ ∃ b, ov'.ownBlock = some b ∧ w.heap.size ≤ b
section
variable {w w1 w2 : World} {S : Nat → Prop} {ov ov1 ov2 : Value}
theorem Emits.refl (w : World) (S : Nat → Prop) (ov : Value) : Emits w w S ov ov := ⟨rfl, rfl, rfl, Nat.le_refl _, fun _ _ _ _ => rfl, .inl rfl⟩
theorem Emits.trans (h : Emits w w1 S ov ov1) (k : Emits w1 w2 S ov1 ov2) : Emits w w2 S ov ov2 := by
  refine ⟨k.os.trans h.os, k.tape.trans h.tape, k.output.trans h.output, Nat.le_trans h.size k.size, fun b h1 h2 h3 => ?_, ?_⟩
  · refine (k.block b (Nat.lt_of_lt_of_le h1 h.size) h2 (fun e => ?_)).trans (h.block b h1 h2 h3)
    rcases h.move with m | ⟨c, m, hc⟩
    · exact h3 (e.trans m)
    · rw [m] at e; cases e; omega
  · rcases k.move with m | ⟨c, m, hc⟩
    · rcases h.move with m' | ⟨c, m', hc⟩
      · exact .inl (m.trans m')
      · exact .inr ⟨c, m.trans m', hc⟩
    · exact .inr ⟨c, m, Nat.le_trans h.size hc⟩
theorem Emits.mono {S' : Nat → Prop} (h : Emits w w1 S ov ov1) (hS : ∀ b, S b → S' b) : Emits w w1 S' ov ov1 := ⟨h.os, h.tape, h.output, h.size, fun b h1 h2 h3 => h.block b h1 (fun e => h2 (hS b e)) h3, h.move⟩
theorem Emits.below (h : Emits w w1 S ov ov1) {B : Nat} (hB : B ≤ w.heap.size) (hS : ∀ b, S b → B ≤ b) (ho : ∀ b, ov.ownBlock = some b → B ≤ b) : Below B w w1 :=
  ⟨h.os, h.tape, h.output, h.size, fun b hb => h.block b (by omega) (fun e => by have := hS b e; omega) (fun e => by have := ho b e.symm; omega)⟩
theorem Emits.setCell (h : Emits w w1 S ov ov1) {a : Addr} (ha : S a.block) (v : Value) : Emits w (w1.setCell a v) S ov ov1 :=
  ⟨h.os, h.tape, h.output, by simp [World.setCell]; exact h.size, fun b h1 h2 h3 => (Below.heap_setCell _ _ _ _ (fun e => h2 (by rw [show b = a.block from e]; exact ha))).trans (h.block b h1 h2 h3), h.move⟩
theorem Emits.alloc (h : Emits w w1 S ov ov1) (o : Obj) : Emits w (w1.alloc o) S ov ov1 :=
  ⟨h.os, h.tape, h.output, by simp; exact Nat.le_succ_of_le h.size, fun b h1 h2 h3 => (Below.heap_alloc _ _ _ (Nat.lt_of_lt_of_le h1 h.size)).trans (h.block b h1 h2 h3), h.move⟩
theorem Emits.drewN (h : Emits w w1 S ov ov1) (n : Nat) : Emits w (w1.drewN n) S ov ov1 := ⟨h.os, h.tape, h.output, h.size, h.block, h.move⟩
end
section
variable {w w' : World} {B p rg : Nat} {name : ByteArray} {ov sv : Value} {out : List Int} {st : Int} {bad : Bool} {lit : ByteArray}
theorem ExAt.kept (h : ExAt w B p rg name ov sv out st bad lit) (hB : ∀ g, g < w.heap.size → w'.heap[g]? = w.heap[g]?) : ExAt w' B p rg name ov sv out st bad lit :=
  ⟨h.blk.of_block (hB _ h.blk.lt), ownsRow_keptT h.row (fun g hg _ => hB g hg), h.root.of_block (hB _ h.root.lt), h.bp, h.br⟩
theorem ExAt.alloc (h : ExAt w B p rg name ov sv out st bad lit) (o : Obj) : ExAt (w.alloc o) B p rg name ov sv out st bad lit := h.kept (fun g hg => Below.heap_alloc _ _ _ hg)
theorem ExAt.drewN (h : ExAt w B p rg name ov sv out st bad lit) (n : Nat) : ExAt (w.drewN n) B p rg name ov sv out st bad lit := h.kept (fun g hg => rfl)
theorem ExAt.below (h : ExAt w B p rg name ov sv out st bad lit) (hb : Below w.heap.size w w') : ExAt w' B p rg name ov sv out st bad lit := h.kept (fun g hg => hb.block g hg)
theorem ExAt.ne (h : ExAt w B p rg name ov sv out st bad lit) : p ≠ rg := h.blk.ne h.root (by decide)
/-- a cell of the excerpt is stored -/
theorem ExAt.put (h : ExAt w B p rg name ov sv out st bad lit) {sv' : Value} {st' : Int} {bad' : Bool} {lit' : ByteArray} (i : Nat) (v : Value)
    (he : ∀ j, j < 10 → (if j = i then v else ecells ov sv st (bad || decide (65536 < out.length)) lit rg j) = ecells ov sv' st' (bad' || decide (65536 < out.length)) lit' rg j) :
    ExAt (w.setCell ⟨p, i, none⟩ v) B p rg name ov sv' out st' bad' lit' := by
  refine ⟨(h.blk.setCell (i := i) v).congr he, ownsRow_keptT h.row (fun g hg ⟨cur, hc⟩ => Below.heap_setCell _ _ _ _ (fun e => ?_)), h.root.setOther _ _ h.ne.symm, h.bp, h.br⟩
  obtain ⟨c, hb, _⟩ := h.blk
  rw [e, hb] at hc
  simp at hc
end
theorem Try.info5 : (Try.prog.info? 5).map (fun i => (i.zero, i.size, i.bytes)) = some (some (.int .u8 0), 1, 1) := by kernel_rfl
theorem app22 (w : World) (B : Nat) (v : Value) (out xs : List Int) (c cap : Nat) (hown : w.ownsRow B 5 1 v out.length (out.map (Value.int .u8))) (hc : ∀ j x, xs[j]? = some x → w.cell? ⟨c, j, none⟩ = some (.int .u8 x)) (hx : 0 < xs.length) (hl : out.length + xs.length ≤ 1048576) (hb : B ≤ w.heap.size) :
    ∃ g cap' w', (Builtin.append_ #[22, 22] 22 #[v, .slice (some ⟨c, 0, none⟩) xs.length cap]).run Try.prog w = .ok (.slice (some ⟨g, 0, none⟩) (out.length + xs.length) cap') w' ∧
      w'.ownsRow B 5 1 (.slice (some ⟨g, 0, none⟩) (out.length + xs.length) cap') (out ++ xs).length ((out ++ xs).map (Value.int .u8)) ∧ w.grownBy w' v.ownBlock ∧ (v.ownBlock = some g ∨ g = w.heap.size) ∧ g < w'.heap.size := by
  obtain ⟨i, hi, hz, h1, h2⟩ := info_parts Try.info5
  obtain ⟨g, cap', w', hr, ho, hg, hl', hlt⟩ := run_append_lies (P := Try.prog) w 22 22 B 5 i _ 1 1 Try.underlying22 hi hz h1 h2 rfl (by omega) v out.length (out.map (Value.int .u8)) hown ⟨c, 0, none⟩ xs.length cap (xs.map (Value.int .u8)) (by simp)
    (fun j u hj => by
      rw [add_plain]
      rw [List.getElem?_map] at hj
      cases hx : xs[j]? with
      | none => rw [hx] at hj; cases hj
      | some x =>
        rw [hx] at hj
        cases hj
        simpa using hc j x hx)
    (fun u hu => by
      obtain ⟨x, _, rfl⟩ := List.mem_map.1 hu
      rfl) hx (by unfold maxLen; omega) (by omega) hb w.heap.size rfl
  exact ⟨g, cap', w', hr, by simpa using ho, hg, hl', hlt⟩

/-- 'e.out = append(e.out, xs...)', the answer stored -/
theorem ExAt.emit {w : World} {B p rg : Nat} {name : ByteArray} {ov sv : Value} {out : List Int} {st : Int} {bad : Bool} {lit : ByteArray} (h : ExAt w B p rg name ov sv out st bad lit) {xs : List Int} {c cap : Nat} (hB : B ≤ w.heap.size)
    (hc : ∀ j x, xs[j]? = some x → w.cell? ⟨c, j, none⟩ = some (.int .u8 x)) (hx : 0 < xs.length) (hl : out.length + xs.length ≤ 1048576) :
    ∃ g cap' w1, (Builtin.append_ #[22, 22] 22 #[ov, .slice (some ⟨c, 0, none⟩) xs.length cap]).run Try.prog w = .ok (.slice (some ⟨g, 0, none⟩) (out.length + xs.length) cap') w1 ∧
      RowB w1 p 48 10 (ecells ov sv st (bad || decide (65536 < out.length)) lit rg) ∧
      (∀ w2, RowB w2 p 48 10 (ecells (.slice (some ⟨g, 0, none⟩) (out.length + xs.length) cap') sv st (bad || decide (65536 < (out ++ xs).length)) lit rg) → (∀ b, b < w1.heap.size → b ≠ p → w2.heap[b]? = w1.heap[b]?) → ExAt w2 B p rg name (.slice (some ⟨g, 0, none⟩) (out.length + xs.length) cap') sv (out ++ xs) st bad lit) ∧
      Emits w w1 (fun b => b = p) ov (.slice (some ⟨g, 0, none⟩) (out.length + xs.length) cap') := by
  obtain ⟨g, cap', w1, hr, ho, hg, hl', hlt⟩ := app22 w B ov out xs c cap h.row hc hx hl hB
  have hK : ∀ b, b < w.heap.size → (∀ cur, w.heap[b]? ≠ some (.cells cur 5 (0, 0))) → w1.heap[b]? = w.heap[b]? := fun b h1 h2 => hg.block b h1 (fun e => by
    obtain ⟨cur, hc⟩ := ownsRow_ne h.row e.symm
    exact h2 cur hc)
  have hp : w1.heap[p]? = w.heap[p]? := hK p h.blk.lt (fun cur hc => by obtain ⟨c, hb, _⟩ := h.blk; rw [hb] at hc; simp at hc)
  have hrg : w1.heap[rg]? = w.heap[rg]? := hK rg h.root.lt (fun cur hc => by obtain ⟨c, hb, _⟩ := h.root; rw [hb] at hc; simp at hc)
  have hb1 := h.blk.of_block hp
  refine ⟨g, cap', w1, hr, hb1, fun w2 hb2 hk2 => ⟨hb2, ownsRow_keptT ho (fun b h1 ⟨cur, hc⟩ => hk2 b h1 (fun e => ?_)), (h.root.of_block hrg).of_block (hk2 rg (h.root.of_block hrg).lt h.ne.symm), h.bp, h.br⟩, hg.os, hg.tape, hg.output, hg.size, fun b h1 _ h3 => hg.block b h1 h3, ?_⟩
  · obtain ⟨c, hb, _⟩ := hb1
    rw [e, hb] at hc
    simp at hc
  · rcases hl' with e | e
    · exact .inl e.symm
    · exact .inr ⟨g, rfl, by omega⟩

set_option maxHeartbeats 400000 in
theorem emit28 {w : World} {B p rg : Nat} {name : ByteArray} {ov sv : Value} {out : List Int} {st : Int} {bad : Bool} {lit : ByteArray} (h : ExAt w B p rg name ov sv out st bad lit) {xs : List Int} {c cap : Nat} (hB : B ≤ w.heap.size)
    (hc : ∀ j x, xs[j]? = some x → w.cell? ⟨c, j, none⟩ = some (.int .u8 x)) (hx : 0 < xs.length) (hl : out.length + xs.length ≤ 1048576) :
    Calls Try.prog 28 #[.pointer (some ⟨p, 0, none⟩), .slice (some ⟨c, 0, none⟩) xs.length cap] w fun e w' => e = .returned (.tuple #[]) ∧ ∃ ov', ExAt w' B p rg name ov' sv (out ++ xs) st bad lit ∧ Emits w w' (fun b => b = p) ov ov' := by
  obtain ⟨g, cap', w1, hr, hb1, hk, hem⟩ := h.emit (cap := cap) hB hc hx hl
  obtain ⟨oa, oc, rfl⟩ := ownsRow_form h.row
  have c0 : w.cell? ⟨p, 0, none⟩ = some (.slice oa out.length oc) := h.blk.cell (i := 0) (by omega)
  have d0 : w1.cell? ⟨p, 0, none⟩ = some (.slice oa out.length oc) := hb1.cell (i := 0) (by omega)
  have f0 := hb1.frozen 0
  have f3 := hb1.frozen 3
  have d3 : w1.cell? ⟨p, 3, none⟩ = some (.bool (bad || decide (65536 < out.length))) := hb1.cell (i := 3) (by omega)
  generalize hxl : xs.length = n at *
  generalize hol : out.length = m at *
  go_enter Try.func28, Try.ntmps28
  go_wp2_with (at_builtin; refine wpList_append_run hr rfl _ _ rfl rfl rfl rfl ?_)
  · go_end0
    refine ⟨rfl, _, hk _ ((hb1.setCell (i := 0) _).setCell (i := 3) _ |>.congr (fun j hj => ?_)) (fun b h1 h2 => ((Below.heap_setCell _ _ _ _ h2).trans (Below.heap_setCell _ _ _ _ h2))), (hem.setCell (a := ⟨p, 0, none⟩) rfl _).setCell (a := ⟨p, 3, none⟩) rfl _⟩
    match j, hj with
    | 0, _ => rfl
    | 1, _ => rfl
    | 2, _ => rfl
    | 3, _ => simp [ecells, hxl, hol]; right; omega
    | 4, _ => rfl
    | 5, _ => rfl
    | 6, _ => rfl
    | 7, _ => rfl
    | 8, _ => rfl
    | 9, _ => rfl
  · go_end0
    refine ⟨rfl, _, hk _ ((hb1.setCell (i := 0) _).congr (fun j hj => ?_)) (fun b h1 h2 => Below.heap_setCell _ _ _ _ h2), (hem.setCell (a := ⟨p, 0, none⟩) rfl _)⟩
    match j, hj with
    | 0, _ => rfl
    | 1, _ => rfl
    | 2, _ => rfl
    | 3, _ =>
      have h1 : ¬ (65536 < m + n) := by omega
      have h2 : ¬ (65536 < m) := by omega
      simp [ecells, hxl, hol, h1, h2]
    | 4, _ => rfl
    | 5, _ => rfl
    | 6, _ => rfl
    | 7, _ => rfl
    | 8, _ => rfl
    | 9, _ => rfl
end Go.Proofs.Qxb6603654a
