import Derived.Test.Qxb6603654aP2
namespace Go.Proofs.Qxb6603654a
open Go.RowKit Go.WideShapes
set_option linter.unusedVariables false
set_option linter.unusedSimpArgs false

def stN (st c : Int) : Int := if c = 34 then 6 else if c = 45 then 9 else if c = 48 then 10 else if 48 ≤ c ∧ c ≤ 57 then 11 else if c = 116 ∨ c = 102 ∨ c = 110 then 17 else st
def litN (lit : ByteArray) (c : Int) : ByteArray := if c = 116 then ⟨#[114, 117, 101]⟩ else if c = 102 then ⟨#[97, 108, 115, 101]⟩ else if c = 110 then ⟨#[117, 108, 108]⟩ else lit
def badN (c : Int) : Bool := !(decide (c = 34) || decide (c = 45) || (decide (48 ≤ c) && decide (c ≤ 57)) || decide (c = 116) || decide (c = 102) || decide (c = 110))

theorem digit29 (c : Int) (w : World) : Calls Try.prog 29 #[.int .u8 c] w fun e w' => e = .returned (.bool (decide (48 ≤ c) && decide (c ≤ 57))) ∧ w' = w := by
  go_enter Try.func29, Try.ntmps29
  by_cases h1 : 48 ≤ c
  · go_wp2
    go_ret
    exact ⟨by simp [h1], rfl⟩
  · have h2 : decide (48 ≤ c) = false := by simpa using h1
    go_wp2
    go_ret
    exact ⟨rfl, rfl⟩
theorem nil40 (w : World) (rg : Nat) : (binOp .eql 40 (.slice (some ⟨rg, 0, none⟩) 1 1) (.slice none 0 0)).run Try.prog w = .ok (.bool false) w := by kernel_rfl
section
variable {w : World} {B p rg fg fcap : Nat} {name : ByteArray} {ov sv : Value} {out : List Int} {st : Int} {bad kept : Bool} {lit : ByteArray}
theorem scalar30 (c : Int) (h : w.cell? ⟨p, 4, none⟩ = some (.int .i64 0)) : Calls Try.prog 30 #[.pointer (some ⟨p, 0, none⟩), .int .u8 c] w fun e w' => e = .returned (.tuple #[]) ∧ w' = w := by
  go_enter Try.func30, Try.ntmps30
  go_wp2
  go_end0
  exact ⟨rfl, rfl⟩
theorem next27e (h : ExAt w B p rg name ov (.slice none 0 0) out st bad lit) :
    Calls Try.prog 27 #[.pointer (some ⟨p, 0, none⟩)] w fun e w' => e = .returned (.tuple #[.int .i64 2, .slice (some ⟨rg, 0, none⟩) 1 1]) ∧ ∃ n, w' = w.drewN n := by
  have c1 : w.cell? ⟨p, 1, none⟩ = some (.slice none 0 0) := h.blk.cell (i := 1) (by omega)
  have hn := nil40
  have c9 : w.cell? ⟨p, 9, none⟩ = some (.slice (some ⟨rg, 0, none⟩) 1 1) := h.blk.cell (i := 9) (by omega)
  go_enter Try.func27, Try.ntmps27
  go_wp2
  go_quiet (fail)
  go_wp2
  go_ret2
  exact ⟨rfl, _, rfl⟩
end
theorem Try.info50 : (Try.prog.info? 50).map (fun i => (i.zero, i.size, i.bytes)) = some (some (.agg #[.bool false, .int .i64 0, .slice none 0 0, .bool false, .int .i64 0, .slice none 0 0]), 6, 80) := by kernel_rfl

theorem ten {P : Nat → Prop} (h0 : P 0) (h1 : P 1) (h2 : P 2) (h3 : P 3) (h4 : P 4) (h5 : P 5) (h6 : P 6) (h7 : P 7) (h8 : P 8) (h9 : P 9) : ∀ j, j < 10 → P j := fun j hj => by
  match j, hj with
  | 0, _ => exact h0
  | 1, _ => exact h1
  | 2, _ => exact h2
  | 3, _ => exact h3
  | 4, _ => exact h4
  | 5, _ => exact h5
  | 6, _ => exact h6
  | 7, _ => exact h7
  | 8, _ => exact h8
  | 9, _ => exact h9
section
variable {w : World} {B p rg fg fcap : Nat} {name : ByteArray} {ov sv : Value} {out : List Int} {st : Int} {bad kept : Bool} {lit : ByteArray}
theorem ExAt.put2 (h : ExAt w B p rg name ov sv out st bad lit) (s : Int) : ExAt (w.setCell ⟨p, 2, none⟩ (.int .i64 s)) B p rg name ov sv out s bad lit := h.put 2 _ (ten rfl rfl rfl rfl rfl rfl rfl rfl rfl rfl)
theorem ExAt.put3 (h : ExAt w B p rg name ov sv out st bad lit) : ExAt (w.setCell ⟨p, 3, none⟩ (.bool true)) B p rg name ov sv out st true lit := h.put 3 _ (ten rfl rfl rfl rfl rfl rfl rfl rfl rfl rfl)
theorem ExAt.put4 (h : ExAt w B p rg name ov sv out st bad lit) : ExAt (w.setCell ⟨p, 4, none⟩ (.int .i64 0)) B p rg name ov sv out st bad lit := h.put 4 _ (ten rfl rfl rfl rfl rfl rfl rfl rfl rfl rfl)
theorem ExAt.put5 (h : ExAt w B p rg name ov sv out st bad lit) (l : ByteArray) : ExAt (w.setCell ⟨p, 5, none⟩ (.string l)) B p rg name ov sv out st bad l := h.put 5 _ (ten rfl rfl rfl rfl rfl rfl rfl rfl rfl rfl)
theorem ExAt.put6 (h : ExAt w B p rg name ov sv out st bad lit) : ExAt (w.setCell ⟨p, 6, none⟩ (.bool false)) B p rg name ov sv out st bad lit := h.put 6 _ (ten rfl rfl rfl rfl rfl rfl rfl rfl rfl rfl)
theorem FrAt.setP (h : FrAt w B fg fcap rg kept) (hne : fg ≠ p) (i : Nat) (v : Value) : FrAt (w.setCell ⟨p, i, none⟩ v) B fg fcap rg kept := h.keptT (Below.heap_setCell _ _ _ _ hne)
end
/-- begin('[') of a new excerpt -/
theorem begin24a {w : World} {B p rg : Nat} {name : ByteArray} (h : ExAt w B p rg name (.slice none 0 0) (.slice none 0 0) [] 0 false ⟨#[]⟩) (hB : B ≤ w.heap.size) :
    Calls Try.prog 24 #[.pointer (some ⟨p, 0, none⟩), .int .u8 91] w fun e w' => e = .returned (.tuple #[]) ∧ ∃ ov' fg fcap, ExAt w' B p rg name ov' (.slice (some ⟨fg, 0, none⟩) 1 fcap) [91] 1 false ⟨#[]⟩ ∧ FrAt w' B fg fcap rg false ∧ Emits w w' (fun b => b = p) (.slice none 0 0) ov' := by
  go_enter Try.func24, Try.ntmps24
  go_wp2_with fail
  refine (next27e h).mono ?_
  rintro e w1 ⟨rfl, n, rfl⟩
  have h1 := h.drewN n
  have hem1 : Emits w (w.drewN n) (fun b => b = p) (.slice none 0 0) (.slice none 0 0) := (Emits.refl w _ _).drewN n
  have hB1 : B ≤ (w.drewN n).heap.size := hB
  generalize w.drewN n = W at *
  have c1 : W.cell? ⟨p, 1, none⟩ = some (.slice none 0 0) := h1.blk.cell (i := 1) (by omega)
  obtain ⟨i50, hi, hz, q1, q2⟩ := info_parts Try.info50
  have hnew : (W.alloc (.cells (frow rg false).toArray 50)).heap[W.heap.size]? = some (.cells (frow rg false).toArray 50) := (MapKept.heap_alloc _ _).1
  obtain ⟨fg, fcap, w2, hr, ho, hg, hl', hlt⟩ := run_append_lies (P := Try.prog) (W.alloc (.cells (frow rg false).toArray 50)) 44 44 B 50 i50 _ 6 80 Try.underlying44 hi hz q1 q2 rfl (by omega) (.slice none 0 0) 0 [] (World.ownsRow_nil _ _ _ _) ⟨W.heap.size, 0, none⟩ 1 1 (frow rg false) rfl
    (fun j u hj => by
      rw [add_plain]
      unfold World.cell?
      rw [hnew]
      simpa using hj)
    (fun u hu => by
      simp only [frow, List.mem_cons, List.not_mem_nil, or_false] at hu
      rcases hu with rfl | rfl | rfl | rfl | rfl | rfl <;> rfl) (by omega) (by unfold maxLen; omega) (by omega) (by simp; omega) _ rfl
  have hr' : (Builtin.append_ #[44, 44] 44 #[.slice none 0 0, .slice (some ⟨W.heap.size, 0, none⟩) 1 1]).run Try.prog (W.alloc (.cells #[.bool false, .int .i64 2, .slice (some ⟨rg, 0, none⟩) 1 1, .bool false, .int .i64 0, .slice none 0 0] 50)) = .ok (.slice (some ⟨fg, 0, none⟩) 1 fcap) w2 := hr
  have hkb : ∀ b, b < W.heap.size → w2.heap[b]? = W.heap[b]? := fun b hb => (hg.block b (by simp; omega) (by simp [Value.ownBlock])).trans (Below.heap_alloc _ _ _ hb)
  have h2 : ExAt w2 B p rg name (.slice none 0 0) (.slice none 0 0) [] 0 false ⟨#[]⟩ := h1.kept hkb
  have c2 : w2.cell? ⟨p, 1, none⟩ = some (.slice none 0 0) := h2.blk.cell (i := 1) (by omega)
  have f2 := h2.blk.frozen 1
  go_wp2_with (first | (at_builtin; refine wpList_append_run hr' rfl _ _ rfl rfl rfl rfl ?_) | fail)
  have h3 : ExAt (w2.setCell ⟨p, 1, none⟩ (.slice (some ⟨fg, 0, none⟩) 1 fcap)) B p rg name (.slice none 0 0) (.slice (some ⟨fg, 0, none⟩) 1 fcap) [] 0 false ⟨#[]⟩ := h2.put 1 _ (ten rfl rfl rfl rfl rfl rfl rfl rfl rfl rfl)
  have hfr2 : FrAt w2 B fg fcap rg false := ho
  have hem2 : Emits w w2 (fun b => b = p) (.slice none 0 0) (.slice none 0 0) := hem1.trans ⟨hg.os, hg.tape, hg.output, Nat.le_trans (by simp) hg.size, fun b hb _ _ => hkb b hb, .inl rfl⟩
  have hem3 := hem2.setCell (a := ⟨p, 1, none⟩) rfl (.slice (some ⟨fg, 0, none⟩) 1 fcap)
  have hf3 : FrAt (w2.setCell ⟨p, 1, none⟩ (.slice (some ⟨fg, 0, none⟩) 1 fcap)) B fg fcap rg false := hfr2.keptT (Below.heap_setCell _ _ _ _ (hfr2.ne_p h2))
  have hsz : (w2.setCell ⟨p, 1, none⟩ (.slice (some ⟨fg, 0, none⟩) 1 fcap)).heap.size = w2.heap.size := by simp [World.setCell]
  generalize w2.setCell ⟨p, 1, none⟩ (.slice (some ⟨fg, 0, none⟩) 1 fcap) = W3 at *
  rw [← hsz]
  have hf4 : FrAt (W3.alloc (.cells #[.int .u8 91] 5)) B fg fcap rg false := hf3.keptT (Below.heap_alloc _ _ _ hf3.lt)
  refine (emit28 (h3.alloc _) (xs := [91]) (cap := 1) (Nat.le_trans hB (Nat.le_trans hem3.size (by simp))) (byte1 W3 91) (by simp) (by simp)).mono ?_
  rintro e w4 ⟨rfl, ov4, h4, hem4⟩
  have hf5 := hf4.emits (h3.alloc _) hem4
  have hem5 := (hem3.alloc (.cells #[.int .u8 91] 5)).trans hem4
  have d2 : w4.cell? ⟨p, 2, none⟩ = some (.int .i64 0) := h4.blk.cell (i := 2) (by omega)
  have z2 := h4.blk.frozen 2
  clear hr' hr hnew h1 h2 h3 c1 c2 f2
  go_wp2_with fail
  refine bodyPost_ret (results_none rfl _ _ _) rfl ?_
  exact ⟨rfl, ov4, fg, fcap, h4.put 2 _ (ten rfl rfl rfl rfl rfl rfl rfl rfl rfl rfl), hf5.keptT (Below.heap_setCell _ _ _ _ (hf5.ne_p h4)), hem5.setCell (a := ⟨p, 2, none⟩) rfl _⟩

theorem byte4 (w : World) : ∀ (j : Nat) (y : Int), ([110, 117, 108, 108] : List Int)[j]? = some y → (w.alloc (.cells #[.int .u8 110, .int .u8 117, .int .u8 108, .int .u8 108] 5 (4, 5))).cell? ⟨w.heap.size, j, none⟩ = some (.int .u8 y) := fun j y h => by
  have := (MapKept.heap_alloc w (.cells #[.int .u8 110, .int .u8 117, .int .u8 108, .int .u8 108] 5 (4, 5))).1
  match j, h with
  | 0, h => simp at h; subst h; unfold World.cell?; rw [this]; rfl
  | 1, h => simp at h; subst h; unfold World.cell?; rw [this]; rfl
  | 2, h => simp at h; subst h; unfold World.cell?; rw [this]; rfl
  | 3, h => simp at h; subst h; unfold World.cell?; rw [this]; rfl

set_option maxHeartbeats 2000000 in
/-- begin(c) in the array -/
theorem begin24b {w : World} {B p rg fg fcap : Nat} {name : ByteArray} {ov : Value} {out : List Int} {st : Int} {bad kept : Bool} {lit : ByteArray} (h : ExAt w B p rg name ov (.slice (some ⟨fg, 0, none⟩) 1 fcap) out st bad lit) (hf : FrAt w B fg fcap rg kept) (hB : B ≤ w.heap.size) (hl : out.length + 5 ≤ 1048576)
    (c : Int) (hc1 : ¬ c = 123) (hc2 : ¬ c = 91) :
    Calls Try.prog 24 #[.pointer (some ⟨p, 0, none⟩), .int .u8 c] w fun e w' => e = .returned (.tuple #[]) ∧ ∃ ov', ExAt w' B p rg name ov' (.slice (some ⟨fg, 0, none⟩) 1 fcap) (out ++ sepK kept ++ [110, 117, 108, 108]) (stN st c) (bad || badN c) (litN lit c) ∧ FrAt w' B fg fcap rg true ∧ Emits w w' (fun b => b = p ∨ b = fg) ov ov' := by
  have b1 : (c == (123 : Int)) = false := by simpa using hc1
  have b2 : (c == (91 : Int)) = false := by simpa using hc2
  have b1' : (c != (123 : Int)) = true := by simpa using hc1
  have b2' : (c != (91 : Int)) = true := by simpa using hc2
  have hsl : (sepK kept).length ≤ 1 := by cases kept <;> simp [sepK]
  go_enter Try.func24, Try.ntmps24
  go_wp2_with fail
  refine (next27 h hf hB (by omega)).mono ?_
  rintro e w1 ⟨rfl, ov1, h1, hf1, hem1⟩
  have hcv : (convert 22 22 (.slice (some ⟨w1.heap.size, 0, none⟩) 4 4)).run Try.prog (w1.alloc (.cells #[.int .u8 110, .int .u8 117, .int .u8 108, .int .u8 108] 5)) = .ok (.slice (some ⟨w1.heap.size, 0, none⟩) 4 4) (w1.alloc (.cells #[.int .u8 110, .int .u8 117, .int .u8 108, .int .u8 108] 5 (4, 5))) := Joins.run_convert_bytes_const_at w1 22 5 _ 4 4 _ rfl Try.underlying22 Try.underlying5
  go_wp2_with fail
  have h2 := h1.alloc (.cells #[.int .u8 110, .int .u8 117, .int .u8 108, .int .u8 108] 5 (4, 5))
  have hf2 : FrAt (w1.alloc (.cells #[.int .u8 110, .int .u8 117, .int .u8 108, .int .u8 108] 5 (4, 5))) B fg fcap rg true := hf1.keptT (Below.heap_alloc _ _ _ hf1.lt)
  have hol : (out ++ sepK kept).length + 4 ≤ 1048576 := by simp; omega
  refine (emit28 h2 (xs := [110, 117, 108, 108]) (cap := 4) (Nat.le_trans hB (Nat.le_trans hem1.size (by simp))) (byte4 w1) (by simp) hol).mono ?_
  rintro e w4 ⟨rfl, ov4, h4, hem4⟩
  have hf4 := hf2.emits h2 hem4
  have hem5 := (hem1.alloc (.cells #[.int .u8 110, .int .u8 117, .int .u8 108, .int .u8 108] 5 (4, 5))).trans (hem4.mono (fun b hb => Or.inl hb))
  clear h h1 h2 hf hf1 hf2 hem1 hem4 hcv hol hsl
  generalize hO : out ++ sepK kept ++ [110, 117, 108, 108] = out' at *
  have HO : Hid (out ++ sepK kept ++ [110, 117, 108, 108] = out') := hO
  clear hO
  have d2 : w4.cell? ⟨p, 2, none⟩ = some (.int .i64 st) := h4.blk.cell (i := 2) (by omega)
  have d3 : w4.cell? ⟨p, 3, none⟩ = some (.bool (bad || decide (65536 < out'.length))) := h4.blk.cell (i := 3) (by omega)
  have d4 : w4.cell? ⟨p, 4, none⟩ = some (.int .i64 0) := h4.blk.cell (i := 4) (by omega)
  have d5 : w4.cell? ⟨p, 5, none⟩ = some (.string lit) := h4.blk.cell (i := 5) (by omega)
  have d6 : w4.cell? ⟨p, 6, none⟩ = some (.bool false) := h4.blk.cell (i := 6) (by omega)
  have z : ∀ i, w4.frozen? ⟨p, i, none⟩ = false := h4.blk.frozen
  have hne := hf4.ne_p h4
  by_cases k1 : c = 34
  · subst k1
    clear b1 b2 b1' b2'
    have hE := (h4.put6.put2 6).put4
    have hF := (((hf4.setP hne 6 (.bool false)).setP hne 2 (.int .i64 6)).setP hne 4 (.int .i64 0))
    have hM := (((hem5.setCell (a := ⟨p, 6, none⟩) (Or.inl rfl) (.bool false)).setCell (a := ⟨p, 2, none⟩) (Or.inl rfl) (.int .i64 6)).setCell (a := ⟨p, 4, none⟩) (Or.inl rfl) (.int .i64 0))
    have es : Hid (stN st 34 = 6) := by show _ = _; simp [stN]
    have el : Hid (litN lit 34 = lit) := by show _ = _; simp [litN]
    have eb : Hid ((bad || badN 34) = bad) := by show _ = _; simp [badN]
    go_wp2_with fail
    refine (scalar30 34 (hE.blk.cell (i := 4) (by omega))).mono ?_
    rintro e w7 ⟨rfl, hE7⟩
    subst w7
    go_wp2_with fail
    go_end0
    rw [es.out, el.out, eb.out, HO.out]
    exact ⟨rfl, ov4, hE, hF, hM⟩
  have e34 : (c == (34 : Int)) = false := by simpa using k1
  by_cases k2 : c = 45
  · subst k2
    clear b1 b2 b1' b2' e34
    have hE := (h4.put2 9).put4
    have hF := ((hf4.setP hne 2 (.int .i64 9)).setP hne 4 (.int .i64 0))
    have hM := ((hem5.setCell (a := ⟨p, 2, none⟩) (Or.inl rfl) (.int .i64 9)).setCell (a := ⟨p, 4, none⟩) (Or.inl rfl) (.int .i64 0))
    have es : Hid (stN st 45 = 9) := by show _ = _; simp [stN]
    have el : Hid (litN lit 45 = lit) := by show _ = _; simp [litN]
    have eb : Hid ((bad || badN 45) = bad) := by show _ = _; simp [badN]
    go_wp2_with fail
    refine (scalar30 45 (hE.blk.cell (i := 4) (by omega))).mono ?_
    rintro e w7 ⟨rfl, hE7⟩
    subst w7
    go_wp2_with fail
    go_end0
    rw [es.out, el.out, eb.out, HO.out]
    exact ⟨rfl, ov4, hE, hF, hM⟩
  have e45 : (c == (45 : Int)) = false := by simpa using k2
  have e45' : (c != (45 : Int)) = true := by simpa using k2
  by_cases k3 : c = 48
  · subst k3
    clear b1 b2 b1' b2' e34 e45 e45'
    have hE := (((h4.put2 9).put2 11).put2 10).put4
    have hF := ((((hf4.setP hne 2 (.int .i64 9)).setP hne 2 (.int .i64 11)).setP hne 2 (.int .i64 10)).setP hne 4 (.int .i64 0))
    have hM := ((((hem5.setCell (a := ⟨p, 2, none⟩) (Or.inl rfl) (.int .i64 9)).setCell (a := ⟨p, 2, none⟩) (Or.inl rfl) (.int .i64 11)).setCell (a := ⟨p, 2, none⟩) (Or.inl rfl) (.int .i64 10)).setCell (a := ⟨p, 4, none⟩) (Or.inl rfl) (.int .i64 0))
    have es : Hid (stN st 48 = 10) := by show _ = _; simp [stN]
    have el : Hid (litN lit 48 = lit) := by show _ = _; simp [litN]
    have eb : Hid ((bad || badN 48) = bad) := by show _ = _; simp [badN]
    have hdg : (decide ((48 : Int) ≤ 48) && decide (48 ≤ (57 : Int))) = true := by rfl
    go_wp2_with fail
    refine (digit29 48 _).mono ?_
    rintro e w6 ⟨he, hE6⟩
    rw [hdg] at he
    subst w6 he
    go_wp2_with fail
    refine (scalar30 48 (hE.blk.cell (i := 4) (by omega))).mono ?_
    rintro e w7 ⟨rfl, hE7⟩
    subst w7
    go_wp2_with fail
    go_end0
    rw [es.out, el.out, eb.out, HO.out]
    exact ⟨rfl, ov4, hE, hF, hM⟩
  have e48 : (c == (48 : Int)) = false := by simpa using k3
  by_cases k4 : 48 ≤ c ∧ c ≤ 57
  · obtain ⟨k4, k4'⟩ := k4
    have k5 : ¬ c = 116 := by omega
    have k6 : ¬ c = 102 := by omega
    have k7 : ¬ c = 110 := by omega
    have hE := ((h4.put2 9).put2 11).put4
    have hF := (((hf4.setP hne 2 (.int .i64 9)).setP hne 2 (.int .i64 11)).setP hne 4 (.int .i64 0))
    have hM := (((hem5.setCell (a := ⟨p, 2, none⟩) (Or.inl rfl) (.int .i64 9)).setCell (a := ⟨p, 2, none⟩) (Or.inl rfl) (.int .i64 11)).setCell (a := ⟨p, 4, none⟩) (Or.inl rfl) (.int .i64 0))
    have es : Hid (stN st c = 11) := by show _ = _; simp [stN, k1, k2, k3, k4, k4', k5, k6, k7]
    have el : Hid (litN lit c = lit) := by show _ = _; simp [litN, k1, k2, k3, k4, k4', k5, k6, k7]
    have eb : Hid ((bad || badN c) = bad) := by show _ = _; simp [badN, k1, k2, k3, k4, k4', k5, k6, k7]
    have hdg : (decide ((48 : Int) ≤ c) && decide (c ≤ (57 : Int))) = true := by simp [k4, k4']
    go_wp2_with fail
    refine (digit29 c _).mono ?_
    rintro e w6 ⟨he, hE6⟩
    rw [hdg] at he
    subst w6 he
    go_wp2_with fail
    refine (scalar30 c (hE.blk.cell (i := 4) (by omega))).mono ?_
    rintro e w7 ⟨rfl, hE7⟩
    subst w7
    go_wp2_with fail
    go_end0
    rw [es.out, el.out, eb.out, HO.out]
    exact ⟨rfl, ov4, hE, hF, hM⟩
  have k4d : ∀ c : Int, ¬ (48 ≤ c ∧ c ≤ 57) → (decide ((48 : Int) ≤ c) && decide (c ≤ (57 : Int))) = false := fun c h => by by_cases h1 : 48 ≤ c <;> by_cases h2 : c ≤ 57 <;> simp_all
  have HD : Hid ((decide ((48 : Int) ≤ c) && decide (c ≤ (57 : Int))) = false) := k4d c k4
  clear k4d
  by_cases k5 : c = 116
  · subst k5
    clear b1 b2 b1' b2' e34 e45 e45' e48
    have hE := ((h4.put5 ⟨#[114, 117, 101]⟩).put2 17).put4
    have hF := (((hf4.setP hne 5 (.string ⟨#[114, 117, 101]⟩)).setP hne 2 (.int .i64 17)).setP hne 4 (.int .i64 0))
    have hM := (((hem5.setCell (a := ⟨p, 5, none⟩) (Or.inl rfl) (.string ⟨#[114, 117, 101]⟩)).setCell (a := ⟨p, 2, none⟩) (Or.inl rfl) (.int .i64 17)).setCell (a := ⟨p, 4, none⟩) (Or.inl rfl) (.int .i64 0))
    have es : Hid (stN st 116 = 17) := by show _ = _; simp [stN]
    have el : Hid (litN lit 116 = ⟨#[114, 117, 101]⟩) := by show _ = _; simp [litN]
    have eb : Hid ((bad || badN 116) = bad) := by show _ = _; simp [badN]
    have hdg : (decide ((48 : Int) ≤ 116) && decide (116 ≤ (57 : Int))) = false := by rfl
    go_wp2_with fail
    refine (digit29 116 _).mono ?_
    rintro e w6 ⟨he, hE6⟩
    rw [hdg] at he
    subst w6 he
    go_wp2_with fail
    refine (scalar30 116 (hE.blk.cell (i := 4) (by omega))).mono ?_
    rintro e w7 ⟨rfl, hE7⟩
    subst w7
    go_wp2_with fail
    go_end0
    rw [es.out, el.out, eb.out, HO.out]
    exact ⟨rfl, ov4, hE, hF, hM⟩
  have e116 : (c == (116 : Int)) = false := by simpa using k5
  by_cases k6 : c = 102
  · subst k6
    clear b1 b2 b1' b2' e34 e45 e45' e48 e116
    have hE := ((h4.put5 ⟨#[97, 108, 115, 101]⟩).put2 17).put4
    have hF := (((hf4.setP hne 5 (.string ⟨#[97, 108, 115, 101]⟩)).setP hne 2 (.int .i64 17)).setP hne 4 (.int .i64 0))
    have hM := (((hem5.setCell (a := ⟨p, 5, none⟩) (Or.inl rfl) (.string ⟨#[97, 108, 115, 101]⟩)).setCell (a := ⟨p, 2, none⟩) (Or.inl rfl) (.int .i64 17)).setCell (a := ⟨p, 4, none⟩) (Or.inl rfl) (.int .i64 0))
    have es : Hid (stN st 102 = 17) := by show _ = _; simp [stN]
    have el : Hid (litN lit 102 = ⟨#[97, 108, 115, 101]⟩) := by show _ = _; simp [litN]
    have eb : Hid ((bad || badN 102) = bad) := by show _ = _; simp [badN]
    have hdg : (decide ((48 : Int) ≤ 102) && decide (102 ≤ (57 : Int))) = false := by rfl
    go_wp2_with fail
    refine (digit29 102 _).mono ?_
    rintro e w6 ⟨he, hE6⟩
    rw [hdg] at he
    subst w6 he
    go_wp2_with fail
    refine (scalar30 102 (hE.blk.cell (i := 4) (by omega))).mono ?_
    rintro e w7 ⟨rfl, hE7⟩
    subst w7
    go_wp2_with fail
    go_end0
    rw [es.out, el.out, eb.out, HO.out]
    exact ⟨rfl, ov4, hE, hF, hM⟩
  have e102 : (c == (102 : Int)) = false := by simpa using k6
  by_cases k7 : c = 110
  · subst k7
    clear b1 b2 b1' b2' e34 e45 e45' e48 e116 e102
    have hE := ((h4.put5 ⟨#[117, 108, 108]⟩).put2 17).put4
    have hF := (((hf4.setP hne 5 (.string ⟨#[117, 108, 108]⟩)).setP hne 2 (.int .i64 17)).setP hne 4 (.int .i64 0))
    have hM := (((hem5.setCell (a := ⟨p, 5, none⟩) (Or.inl rfl) (.string ⟨#[117, 108, 108]⟩)).setCell (a := ⟨p, 2, none⟩) (Or.inl rfl) (.int .i64 17)).setCell (a := ⟨p, 4, none⟩) (Or.inl rfl) (.int .i64 0))
    have es : Hid (stN st 110 = 17) := by show _ = _; simp [stN]
    have el : Hid (litN lit 110 = ⟨#[117, 108, 108]⟩) := by show _ = _; simp [litN]
    have eb : Hid ((bad || badN 110) = bad) := by show _ = _; simp [badN]
    have hdg : (decide ((48 : Int) ≤ 110) && decide (110 ≤ (57 : Int))) = false := by rfl
    go_wp2_with fail
    refine (digit29 110 _).mono ?_
    rintro e w6 ⟨he, hE6⟩
    rw [hdg] at he
    subst w6 he
    go_wp2_with fail
    refine (scalar30 110 (hE.blk.cell (i := 4) (by omega))).mono ?_
    rintro e w7 ⟨rfl, hE7⟩
    subst w7
    go_wp2_with fail
    go_end0
    rw [es.out, el.out, eb.out, HO.out]
    exact ⟨rfl, ov4, hE, hF, hM⟩
  have e110 : (c == (110 : Int)) = false := by simpa using k7
  have k34 : ¬ (48 ≤ c ∧ c ≤ 57) := k4
  have hE := h4.put3
  have hF := (hf4.setP hne 3 (.bool true))
  have hM := (hem5.setCell (a := ⟨p, 3, none⟩) (Or.inl rfl) (.bool true))
  have es : Hid (stN st c = st) := by show _ = _; simp [stN, k1, k2, k3, k4, k5, k6, k7]
  have el : Hid (litN lit c = lit) := by show _ = _; simp [litN, k1, k2, k4, k5, k6, k7]
  have eb : Hid ((bad || badN c) = true) := by show _ = _; simp [badN, k1, k2, k5, k6, k7]; right; omega
  have hdg : (decide ((48 : Int) ≤ c) && decide (c ≤ (57 : Int))) = false := by exact HD.out
  go_wp2_with fail
  refine (digit29 c _).mono ?_
  rintro e w6 ⟨he, hE6⟩
  rw [hdg] at he
  subst w6 he
  go_wp2_with fail
  refine bodyPost_ret (results_none rfl _ _ _) rfl ?_
  rw [es.out, el.out, eb.out, HO.out]
  exact ⟨rfl, ov4, hE, hF, hM⟩
end Go.Proofs.Qxb6603654a
