import Derived.Test.Qxb6602988aA1
namespace Go.Proofs.Qxb6602988a
open Go.RowKit
set_option linter.unusedVariables false
set_option linter.unusedSimpArgs false

theorem law42' : Go.Maps.Keyed Try.prog 42 := Go.Maps.int_keyed Try.underlying42
def ekN (a : Nat) : Value := .int .u32 (a : Int)
theorem ekN_inj (x y : Nat) (h : ekN x = ekN y) : x = y := by
  simp [ekN] at h
  omega
theorem key42N {a : Nat} (h : a < 4294967296) : keyOf Try.prog 42 (ekN a) = some (.int .u32 (a : Int)) := Go.Maps.keyOf_int_mk Try.underlying42 (WalkArith.wf_u32 (by omega))
theorem zero57 (w : World) : (zeroValue 57).run Try.prog w = .ok (evV (0, 0)) w := by kernel_rfl
theorem make40 (w : World) (n : Int) : (Instr.makeMap 40 (some (.int .i64 n))).run Try.prog w = .ok (.map (some w.heap.size)) (w.alloc (.map #[] 0)) := by kernel_rfl

/-- the map of the first k slots -/
def slotL (A : Nat → Nat) (V P : Nat → Int) : Nat → List (Nat × (Int × Int))
  | 0 => []
  | k + 1 => aput (slotL A V P k) (A k) (V k, P k)

set_option maxHeartbeats 400000 in
theorem slots19 (a : Option Addr) (n cap : Nat) (A : Nat → Nat) (V P : Nat → Int) (w : World) (hn : n ≤ 65536) (hc : SlotsAt w a n A V P) (hA : ∀ i, i < n → A i < 4294967296) :
    Calls Try.prog 19 #[.slice a n cap] w fun e w' => ∃ g, e = .returned (.map (some g)) ∧ w.heap.size ≤ g ∧ MapL w' Try.prog 42 g ekN evV (slotL A V P n) ∧ Below w.heap.size w w' := by
  have hmm := make40
  go_enter Try.func19, Try.ntmps19
  go_wp2
  clear hmm
  go_loopw [10] (fun i wr => ∃ k : Nat, k ≤ n ∧ i = .int .i64 k ∧ MapL wr Try.prog 42 w.heap.size ekN evV (slotL A V P k) ∧ Below w.heap.size w wr) (fun i _ => n - (intOf i).toNat)
  case atStart => exact ⟨0, Nat.zero_le _, rfl, MapL_made _ _ _ _ _, (Below.refl _ _).alloc (Nat.le_refl _) _⟩
  case round =>
    obtain ⟨k, hk, rfl, hmap, hnx⟩ := hrel
    by_cases hlt : k < n
    · obtain ⟨b, off, rfl, hb, h0, h1, h2⟩ := hc k hlt
      have h0' := (hnx.cell (p := ⟨b, off + k * 3, none⟩) hb).trans h0
      have h1' := (hnx.cell (p := ⟨b, off + k * 3 + 1, none⟩) hb).trans h1
      have h2' := (hnx.cell (p := ⟨b, off + k * 3 + 2, none⟩) hb).trans h2
      have hbr : b < wr.heap.size := Nat.lt_of_lt_of_le hb hnx.size
      have hAk := hA k hlt
      go_wp2_with fail
      go_region_held3 (fun w' => w'.cell? ⟨b, off + k * 3, none⟩ = some (.int .u32 (A k)) ∧ w'.cell? ⟨b, off + k * 3 + 1, none⟩ = some (.int .u8 (V k)) ∧ w'.cell? ⟨b, off + k * 3 + 2, none⟩ = some (.int .u16 (P k))) (go_keep)
        ((go_at_call 32; refine (verd32 _ _ _ _).mono ?_; rintro e w1 ⟨rfl, hb1⟩
          have e0 := (hb1.cell (p := ⟨b, off + k * 3, none⟩) hbr).trans h0'; have e1 := (hb1.cell (p := ⟨b, off + k * 3 + 1, none⟩) hbr).trans h1'; have e2 := (hb1.cell (p := ⟨b, off + k * 3 + 2, none⟩) hbr).trans h2'
          obtain ⟨w2, hu, hm2, ht2⟩ := (hmap.drew.below hb1 hmap.lt).update law42' ekN_inj Try.underlying40 (key42N hAk) (V k, P k)
          unfold ekN evV at hu
          have hd2 : Below w.heap.size w1 w2 := (Below.refl _ _).grown ht2.grown (Nat.le_trans hnx.size hb1.size) (fun j hj => by cases hj; exact Nat.le_refl _)
          have i0 := (hd2.cell (p := ⟨b, off + k * 3, none⟩) hb).trans e0; have i1 := (hd2.cell (p := ⟨b, off + k * 3 + 1, none⟩) hb).trans e1; have i2 := (hd2.cell (p := ⟨b, off + k * 3 + 2, none⟩) hb).trans e2))
      go_wp2
      go_roundw
      case rel => exact ⟨k + 1, by omega, by go_num, hm2, (hnx.drew.trans (hb1.mono hnx.size)).trans hd2⟩
      case measure => simp [intOf]; omega
    · go_wp2
      go_ret
      obtain rfl : k = n := by omega
      exact ⟨_, rfl, Nat.le_refl _, hmap, hnx⟩

/-- the least slot at or past hw and past every slot in use -/
def nextM (hw : Nat) (A : Nat → Nat) : Nat → Nat
  | 0 => hw
  | k + 1 => max (nextM hw A k) (A k + 1)
theorem nextM_le (hw : Nat) (A : Nat → Nat) (k : Nat) (h : hw ≤ 65536) (hA : ∀ i, i < k → A i ≤ 65536) : nextM hw A k ≤ 65537 := by
  induction k with
  | zero => simp [nextM]; omega
  | succ k ih =>
    have := ih (fun i hi => hA i (by omega))
    have := hA k (by omega)
    simp only [nextM]
    omega
set_option maxHeartbeats 400000 in
theorem next20 (hw : Nat) (a : Option Addr) (n cap : Nat) (A : Nat → Nat) (V P : Nat → Int) (w : World) (hh : hw ≤ 65536) (hn : n ≤ 65536) (hc : SlotsAt w a n A V P) (hA : ∀ i, i < n → A i ≤ 65536) :
    Calls Try.prog 20 #[.int .i64 hw, .slice a n cap] w fun e w' => e = .returned (.int .u32 (nextM hw A n)) ∧ w' = w := by
  go_enter Try.func20, Try.ntmps20
  go_wp2
  go_loop [5, 11] (fun z i => ∃ k m : Nat, k ≤ n ∧ i = .int .i64 k ∧ z = .int .u32 m ∧ m ≤ 65537 ∧ Hid (m = nextM hw A k)) (fun _ i => n - (intOf i).toNat)
  case atStart => exact ⟨0, hw, Nat.zero_le _, rfl, rfl, by omega, rfl⟩
  case round =>
    obtain ⟨k, m, hk, rfl, rfl, hm, HM⟩ := hrel
    by_cases hlt : k < n
    · obtain ⟨b, off, rfl, hb, h0, h1, h2⟩ := hc k hlt
      have hAk := hA k hlt
      go_wp2
      · go_round
        case rel => exact ⟨k + 1, A k + 1, by omega, by go_num, by go_num, by omega, by have := HM.out; show _ = nextM hw A (k + 1); simp only [nextM]; omega⟩
        case measure => simp [intOf]; omega
      · go_round
        case rel => exact ⟨k + 1, m, by omega, by go_num, by go_num, by omega, by have := HM.out; show _ = nextM hw A (k + 1); simp only [nextM]; omega⟩
        case measure => simp [intOf]; omega
    · go_wp2
      go_ret
      obtain rfl : k = n := by omega
      rw [HM.out]
      exact ⟨rfl, rfl⟩

/-! ### zzSlotTable -/
theorem Try.info4 : (Try.prog.info? 4).map (fun i => (i.zero, i.size, i.bytes)) = some (some (.bool false), 1, 1) := by kernel_rfl
theorem Try.info57 : (Try.prog.info? 57).map (fun i => (i.zero, i.size, i.bytes)) = some (some (.agg #[.int .u8 0, .int .u16 0]), 2, 4) := by kernel_rfl
theorem make46 (n : Nat) (hn : n ≤ 1048576) (w : World) : (Instr.makeSlice 46 (.int .u32 n) (.int .u32 n)).run Try.prog w = .ok (.slice (some ⟨w.heap.size, 0, none⟩) n n) (w.alloc (.cells (rowOf n (fun _ => .bool false)) 4)) := by
  obtain ⟨i, hi, hz, h1, h2⟩ := info_parts Try.info4
  have := make_row w 46 4 i _ 1 Try.underlying46 hi hz h1 .u32 .u32 n (by rw [h2]; omega) (by unfold maxLen; omega) (fun _ => .bool false) (fun j hj => by simp [Value.cells, Nat.mod_one])
  rw [Nat.mul_one] at this
  exact this
/-- cell j of a row of verdicts told by f -/
def vcell (f : Nat → Int × Int) (j : Nat) : Value := if j % 2 = 0 then .int .u8 (f (j / 2)).1 else .int .u16 (f (j / 2)).2
theorem make48 (n : Nat) (hn : n ≤ 1048576) (w : World) : (Instr.makeSlice 48 (.int .u32 n) (.int .u32 n)).run Try.prog w = .ok (.slice (some ⟨w.heap.size, 0, none⟩) n n) (w.alloc (.cells (rowOf (n * 2) (vcell (fun _ => (0, 0)))) 57)) := by
  obtain ⟨i, hi, hz, h1, h2⟩ := info_parts Try.info57
  refine make_row w 48 57 i _ 2 Try.underlying48 hi hz h1 .u32 .u32 n (by rw [h2]; omega) (by unfold maxLen; omega) _ (fun j hj => ?_)
  simp only [Value.cells, vcell]
  have : j % 2 = 0 ∨ j % 2 = 1 := by omega
  rcases this with h | h <;> simp [h]
theorem vcell_put (f : Nat → Int × Int) (k : Nat) (x : Int × Int) (j : Nat) :
    (if j = k * 2 + 1 then .int .u16 x.2 else if j = k * 2 then .int .u8 x.1 else vcell f j) = vcell (fun i => if i = k then x else f i) j := by
  unfold vcell
  by_cases e1 : j = k * 2 + 1
  · subst e1
    simp [show (k * 2 + 1) / 2 = k by omega]
  · rw [if_neg e1]
    by_cases e0 : j = k * 2
    · subst e0
      simp
    · rw [if_neg e0]
      have : ¬ j / 2 = k := by omega
      simp [this]

/-- is slot i named, and what is held there -/
def hasA (L : List (Nat × (Int × Int))) (i : Nat) : Bool := (aget L i).isSome
def valA (L : List (Nat × (Int × Int))) (i : Nat) : Int × Int := (aget L i).getD (0, 0)

set_option maxHeartbeats 400000 in
theorem table24 (N : Nat) (a : Option Addr) (n cap : Nat) (A : Nat → Nat) (V P : Nat → Int) (w : World) (hN : N ≤ 65537) (hn : n ≤ 65536) (hc : SlotsAt w a n A V P) :
    Calls Try.prog 24 #[.int .u32 N, .slice a n cap] w fun e w' => ∃ g1 g2, e = .returned (.tuple #[.slice (some ⟨g1, 0, none⟩) N N, .slice (some ⟨g2, 0, none⟩) N N]) ∧ w.heap.size ≤ g1 ∧ w.heap.size ≤ g2 ∧ g1 ≠ g2 ∧
      RowB w' g1 4 N (fun i => .bool (hasA (slotL A V P n) i)) ∧ RowB w' g2 57 (N * 2) (vcell (valA (slotL A V P n))) ∧ Below w.heap.size w w' := by
  have m1 := make46 N (by omega)
  have m2 := make48 N (by omega)
  go_enter Try.func24, Try.ntmps24
  go_wp2
  clear m1 m2
  go_loopw [16] (fun i wr => ∃ k : Nat, k ≤ n ∧ i = .int .i64 k ∧ RowB wr w.heap.size 4 N (fun i => .bool (hasA (slotL A V P k) i)) ∧ RowB wr (w.heap.size + 1) 57 (N * 2) (vcell (valA (slotL A V P k))) ∧ Below w.heap.size w wr) (fun i _ => n - (intOf i).toNat)
  case atStart =>
    refine ⟨0, Nat.zero_le _, rfl, ((rowB_new _ _ _ _).alloc _).congr (fun i hi => rfl), ?_, ((Below.refl _ _).alloc (Nat.le_refl _) _).alloc (by simp) _⟩
    have := rowB_new (w.alloc (.cells (rowOf N (fun _ => .bool false)) 4)) 57 (N * 2) (vcell (fun _ => (0, 0)))
    simp at this
    exact this
  case round =>
    obtain ⟨k, hk, rfl, hr1, hr2, hnx⟩ := hrel
    by_cases hlt : k < n
    · obtain ⟨b, off, rfl, hb, h0, h1, h2⟩ := hc k hlt
      have h0' := (hnx.cell (p := ⟨b, off + k * 3, none⟩) hb).trans h0
      have h1' := (hnx.cell (p := ⟨b, off + k * 3 + 1, none⟩) hb).trans h1
      have h2' := (hnx.cell (p := ⟨b, off + k * 3 + 2, none⟩) hb).trans h2
      by_cases hAN : A k < N
      · have c0 := hr1.cell (i := A k) hAN
        have f0 := hr1.frozen (A k)
        go_wp2_with fail
        refine (verd32 _ _ _ _).mono ?_
        rintro e w1 ⟨rfl, hb1⟩
        have q1 := (hr1.setCell (i := A k) (.bool true)).below hb1 (hr1.setCell (i := A k) (.bool true)).lt
        have q2 := (hr2.setOther ⟨w.heap.size, A k, none⟩ (.bool true) (by simp)).below hb1 (hr2.setOther ⟨w.heap.size, A k, none⟩ (.bool true) (by simp)).lt
        have hnx1 : Below w.heap.size w w1 := (hnx.setCell (p := ⟨w.heap.size, A k, none⟩) (Nat.le_refl _) (.bool true)).trans (hb1.mono (by have := hr1.lt; simp [World.setCell]; omega))
        have d0 := q2.cell (i := A k * 2) (by omega)
        have d1 := q2.cell (i := A k * 2 + 1) (by omega)
        have f1 := q2.frozen (A k * 2)
        have f2 := q2.frozen (A k * 2 + 1)
        clear h0' h1' h2' c0 f0
        go_wp2_with fail
        go_roundw
        case rel =>
          refine ⟨k + 1, by omega, by go_num, ((q1.setOther _ _ (by simp)).setOther _ _ (by simp)).congr (fun i hi => ?_), ((q2.setCell _).setCell _).congr (fun i hi => ?_), (hnx1.setCell (by simp) _).setCell (by simp) _⟩
          · simp only [slotL, hasA, aget_aput]
            by_cases e : i = A k <;> simp [e]
          · rw [vcell_put (valA (slotL A V P k)) (A k) (V k, P k) i]
            congr 1
            funext j
            simp only [slotL, valA, aget_aput]
            by_cases e : j = A k <;> simp [e]
        case measure => simp [intOf]; omega
      · go_wp2_with fail
        go_roundw
        case rel =>
          refine ⟨k + 1, by omega, by go_num, hr1.congr (fun i hi => ?_), hr2.congr (fun i hi => ?_), hnx⟩
          · have e : ¬ i = A k := by omega
            simp only [slotL, hasA, aget_aput, e, if_false]
          · have e : ¬ i / 2 = A k := by omega
            simp only [vcell, slotL, valA, aget_aput, e, if_false]
        case measure => simp [intOf]; omega
    · go_wp2
      go_ret2
      obtain rfl : k = n := by omega
      exact ⟨_, _, rfl, Nat.le_refl _, by omega, by omega, hr1, hr2, hnx⟩
end Go.Proofs.Qxb6602988a
