import Derived.Test.Qxb6603820aK2
namespace Go.Proofs.Qxb6603820a
open Go.RowKit Go.WideShapes
set_option linter.unusedVariables false
set_option linter.unusedSimpArgs false

theorem Try.info3 : (Try.prog.info? 3).map (fun i => (i.zero, i.size, i.bytes)) = some (some (.int .i64 0), 1, 8) := by kernel_rfl
theorem Try.info26 : (Try.prog.info? 26).map (fun i => (i.zero, i.size, i.bytes)) = some (some (.slice none 0 0), 1, 24) := by kernel_rfl
theorem make26 (n : Nat) (hn : n ≤ 1048576) (w : World) : (Instr.makeSlice 26 (.int .i64 n) (.int .i64 n)).run Try.prog w = .ok (.slice (some ⟨w.heap.size, 0, none⟩) n n) (w.alloc (.cells (rowOf n (fun _ => .int .i64 0)) 3)) := by
  obtain ⟨i, hi, hz, h1, h2⟩ := info_parts Try.info3
  have := make_row w 26 3 i _ 1 Try.underlying26 hi hz h1 .i64 .i64 n (by rw [h2]; omega) (by unfold maxLen; omega) (fun _ => .int .i64 0) (fun j hj => by simp [Value.cells, Nat.mod_one])
  rw [Nat.mul_one] at this
  exact this
theorem make22 (n : Nat) (hn : n ≤ 1048576) (w : World) : (Instr.makeSlice 22 (.int .i64 n) (.int .i64 n)).run Try.prog w = .ok (.slice (some ⟨w.heap.size, 0, none⟩) n n) (w.alloc (.cells (rowOf n (fun _ => .slice none 0 0)) 26)) := by
  obtain ⟨i, hi, hz, h1, h2⟩ := info_parts Try.info26
  have := make_row w 22 26 i _ 1 Try.underlying22 hi hz h1 .i64 .i64 n (by rw [h2]; omega) (by unfold maxLen; omega) (fun _ => .slice none 0 0) (fun j hj => by simp [Value.cells, Nat.mod_one])
  rw [Nat.mul_one] at this
  exact this
theorem ez22 (w : World) (n c : Nat) : (binOp .eql 22 (.slice none n c) (.slice none 0 0)).run Try.prog w = .ok (.bool true) w := by kernel_rfl
theorem en22 (w : World) (a : Addr) (n c : Nat) : (binOp .eql 22 (.slice (some a) n c) (.slice none 0 0)).run Try.prog w = .ok (.bool false) w := by kernel_rfl
theorem ez26 (w : World) (n c : Nat) : (binOp .eql 26 (.slice none n c) (.slice none 0 0)).run Try.prog w = .ok (.bool true) w := by kernel_rfl
theorem en26 (w : World) (a : Addr) (n c : Nat) : (binOp .eql 26 (.slice (some a) n c) (.slice none 0 0)).run Try.prog w = .ok (.bool false) w := by kernel_rfl

/-- the first k rows have been copied -/
structure CopyAt (w : World) (B og n k : Nat) (RL : Nat → Nat) (X : Nat → Nat → Int) (ra : Nat → Option Addr) (rc : Nat → Nat) : Prop where
  row : RowB w og 26 n (fun i => if i < k then .slice (ra i) (RL i) (rc i) else .slice none 0 0)
  rows : ∀ i, i < k → IntsAt w (ra i) (RL i) (X i)
  ne : ∀ i b off s, i < k → ra i = some ⟨b, off, s⟩ → b ≠ og

theorem IntsAt.setCell {w : World} {a : Option Addr} {l : Nat} {X : Nat → Int} (h : IntsAt w a l X) {g i : Nat} (v : Value) (hne : ∀ b off s, a = some ⟨b, off, s⟩ → b ≠ g) : IntsAt (w.setCell ⟨g, i, none⟩ v) a l X := fun k hk => by
  obtain ⟨b, off, e, hlt, hc⟩ := h k hk
  exact ⟨b, off, e, by simpa [World.setCell] using hlt, (World.cell?_of_block (w := w) (a := ⟨b, off + k, none⟩) (Below.heap_setCell _ _ _ _ (hne b off none e))).trans hc⟩
theorem CopyAt.below {w w' : World} {B og n k : Nat} {RL : Nat → Nat} {X : Nat → Nat → Int} {ra : Nat → Option Addr} {rc : Nat → Nat} (h : CopyAt w B og n k RL X ra rc) (hb : Below w.heap.size w w') : CopyAt w' B og n k RL X ra rc :=
  ⟨h.row.below hb h.row.lt, fun i hi => (h.rows i hi).below hb (Nat.le_refl _), h.ne⟩
/-- one more row that is nil -/
theorem CopyAt.nil {w : World} {B og n k : Nat} {RL : Nat → Nat} {X : Nat → Nat → Int} {ra : Nat → Option Addr} {rc : Nat → Nat} (h : CopyAt w B og n k RL X ra rc) (hz : RL k = 0) : CopyAt w B og n (k + 1) RL X (fun i => if i = k then none else ra i) (fun i => if i = k then 0 else rc i) := by
  refine ⟨h.row.congr (fun i hi => ?_), fun i hi => ?_, fun i b off s hi e => ?_⟩
  · by_cases e : i = k
    · subst e; simp [hz]
    · by_cases e2 : i < k
      · simp [e, e2, show i < k + 1 by omega]
      · simp [e, e2, show ¬ i < k + 1 by omega]
  · by_cases e : i = k
    · subst e
      intro x hx
      omega
    · simpa [e] using h.rows i (by omega)
  · by_cases e' : i = k
    · simp [e'] at e
    · exact h.ne i b off s (by omega) (by simpa [e'] using e)
/-- one more row, new at ng -/
theorem CopyAt.put {w : World} {B og n k ng : Nat} {RL : Nat → Nat} {X : Nat → Nat → Int} {ra : Nat → Option Addr} {rc : Nat → Nat} (h : CopyAt w B og n k RL X ra rc) (hr : RowB w ng 3 (RL k) (fun i => .int .i64 (X k i))) (hne : ng ≠ og) :
    CopyAt (w.setCell ⟨og, k, none⟩ (.slice (some ⟨ng, 0, none⟩) (RL k) (RL k))) B og n (k + 1) RL X (fun i => if i = k then some ⟨ng, 0, none⟩ else ra i) (fun i => if i = k then RL k else rc i) := by
  refine ⟨(h.row.setCell (i := k) _).congr (fun i hi => ?_), fun i hi => ?_, fun i b off s hi e => ?_⟩
  · by_cases e : i = k
    · subst e; simp
    · by_cases e2 : i < k
      · simp [e, e2, show i < k + 1 by omega]
      · simp [e, e2, show ¬ i < k + 1 by omega]
  · by_cases e : i = k
    · subst e
      simp only [if_true]
      refine IntsAt.setCell (fun x hx => ⟨ng, 0, rfl, hr.lt, by rw [Nat.zero_add]; exact hr.cell hx⟩) _ (fun b off s e => ?_)
      simp at e
      omega
    · simp only [e, if_false]
      exact (h.rows i (by omega)).setCell _ (fun b off s e' => h.ne i b off s (by omega) e')
  · by_cases e' : i = k
    · simp [e'] at e
      omega
    · exact h.ne i b off s (by omega) (by simpa [e'] using e)

set_option maxHeartbeats 1000000 in
theorem clone8 (a : Option Addr) (n c : Nat) (ra : Nat → Option Addr) (RL rc : Nat → Nat) (X : Nat → Nat → Int) (w : World) (hn : n ≤ 65536) (hR : ∀ i, i < n → RL i ≤ 131072) (h : TabAt w a n ra RL rc X) :
    Calls Try.prog 8 #[.slice a n c] w fun e w' => ∃ a' c' ra' rc', e = .returned (.slice a' n c') ∧ TabAt w' a' n ra' RL rc' X ∧ Below w.heap.size w w' := by
  have e1 := ez22
  have e2 := en22
  have e3 := ez26
  have e4 := en26
  go_enter Try.func8, Try.ntmps8
  cases a with
  | none =>
    have hn0 : n = 0 := by
      rcases Nat.eq_zero_or_pos n with h0 | h0
      · exact h0
      · obtain ⟨b, off, e, _⟩ := h.head 0 h0
        cases e
    subst hn0
    go_wp2
    go_ret
    exact ⟨none, 0, fun _ => none, fun _ => 0, rfl, ⟨fun i hi => by omega, fun i hi => by omega, fun i hi => by omega⟩, Below.refl _ _⟩
  | some ad =>
    have hmk := make22 n (by omega)
    go_wp2
    clear hmk e1 e2
    have hrow0 := rowB_new w 26 n (fun _ => .slice none 0 0)
    have hB0 : Below w.heap.size w (w.alloc (.cells (rowOf n (fun _ => .slice none 0 0)) 26)) := (Below.refl _ _).alloc (Nat.le_refl _) _
    generalize (w.alloc (.cells (rowOf n (fun _ => .slice none 0 0)) 26)) = W0 at *
    go_loopg [4] n (fun g iv wr => ∃ (k : Nat) (ra' : Nat → Option Addr) (rc' : Nat → Nat), k ≤ n ∧ g = n - k ∧ iv = .int .i64 k ∧ CopyAt wr w.heap.size w.heap.size n k RL X ra' rc' ∧ Below w.heap.size w wr)
    case atStart => exact ⟨0, fun _ => none, fun _ => 0, Nat.zero_le _, rfl, rfl, ⟨hrow0.congr (fun i hi => by simp), fun i hi => by omega, fun i b off s hi => by omega⟩, hB0⟩
    case round =>
      clear hrow0 hB0
      obtain ⟨k, ra', rc', hk, hgk, rfl, hC, hB⟩ := hrel
      have HG : Hid (gk = n - k) := hgk
      clear hgk
      by_cases hlt : k < n
      · obtain ⟨b, off, ea, hb, hc⟩ := h.head k hlt
        cases ea
        have c0 := (hB.cell (p := ⟨b, off + k, none⟩) hb).trans hc
        have hrl := hR k hlt
        have hrow := h.rows k hlt
        clear hc
        cases hra : ra k with
        | none =>
          rw [hra] at c0
          have hz : RL k = 0 := by
            rcases Nat.eq_zero_or_pos (RL k) with h0 | h0
            · exact h0
            · obtain ⟨b, off, e, _⟩ := hrow 0 h0
              rw [hra] at e
              cases e
          rw [hz] at c0
          have HZ : Hid (RL k = 0) := hz
          clear hz hra hrow hrl
          go_wp2
          go_roundg (n - (k + 1))
          case measure => have := HG.out; omega
          case rel => exact ⟨k + 1, _, _, by omega, rfl, by go_num, hC.nil HZ.out, hB⟩
        | some rd =>
          rw [hra] at c0 hrow
          clear hra
          have hmk := make26 (RL k) (by omega)
          go_wp2
          clear hmk e3 e4
          have hrw := rowB_new wr 3 (RL k) (fun _ => .int .i64 0)
          have hBw : Below wr.heap.size wr (wr.alloc (.cells (rowOf (RL k) (fun _ => .int .i64 0)) 3)) := (Below.refl _ _).alloc (Nat.le_refl _) _
          generalize (wr.alloc (.cells (rowOf (RL k) (fun _ => .int .i64 0)) 3)) = W1 at *
          have hogr : w.heap.size < wr.heap.size := hC.row.lt
          go_loopg [7] (RL k) (fun g iv wx => ∃ t : Nat, t ≤ RL k ∧ g = RL k - t ∧ iv = .int .i64 t ∧ RowB wx wr.heap.size 3 (RL k) (fun i => if i < t then .int .i64 (X k i) else .int .i64 0) ∧ Below wr.heap.size wr wx)
          case atStart => exact ⟨0, Nat.zero_le _, rfl, rfl, hrw.congr (fun i hi => by simp), hBw⟩
          case round =>
            clear hrw hBw
            obtain ⟨t, ht, hgt, rfl, hrw, hBx⟩ := hrel
            have HT : Hid (gk = RL k - t) := hgt
            clear hgt
            by_cases hlt2 : t < RL k
            · obtain ⟨b2, off2, ed, hb2, hc2⟩ := hrow t hlt2
              cases ed
              have hB2 := hB.trans (hBx.mono hB.size)
              have d0 := (hB2.cell (p := ⟨b2, off2 + t, none⟩) hb2).trans hc2
              have d1 := hrw.cell (i := t) hlt2
              rw [if_neg (by omega)] at d1
              have f1 := hrw.frozen t
              go_wp2
              go_roundg (RL k - (t + 1))
              case measure => have := HT.out; omega
              case rel =>
                refine ⟨t + 1, by omega, rfl, by go_num, (hrw.setCell (i := t) _).congr (fun i hi => ?_), hBx.setCell (Nat.le_refl _) _⟩
                by_cases e1 : i = t
                · simp [e1]
                · by_cases e2 : i < t
                  · simp [e1, e2, show i < t + 1 by omega]
                  · simp [e1, e2, show ¬ i < t + 1 by omega]
            · have hC2 := hC.below hBx
              have hrw2 := hrw.congr (f' := fun i => .int .i64 (X k i)) (fun i hi => by rw [if_pos (by omega)])
              have d1 := hC2.row.cell (i := k) hlt
              rw [if_neg (by omega)] at d1
              have f1 := hC2.row.frozen k
              have hB2 := hB.trans (hBx.mono hB.size)
              go_wp2
              go_roundg (n - (k + 1))
              case measure => have := HG.out; omega
              case rel => exact ⟨k + 1, _, _, by omega, rfl, by go_num, hC2.put hrw2 (by omega), hB2.setCell (Nat.le_refl _) _⟩
      · obtain rfl : k = n := by omega
        go_wp2
        go_ret
        exact ⟨_, _, ra', rc', rfl, ⟨fun i hi => ⟨w.heap.size, 0, rfl, hC.row.lt, by rw [Nat.zero_add]; have := hC.row.cell (i := i) hi; rw [if_pos hi] at this; exact this⟩, h.len, hC.rows⟩, hB⟩
end Go.Proofs.Qxb6603820a
