import Derived.Test.Qxb6602988aB1
import Derived.Test.Qxb6602988aRowB
import Derived.Deep.RegionHeld3
namespace Go.Proofs.Qxb6602988a
open Go.RowKit
set_option linter.unusedVariables false
set_option maxHeartbeats 400000 in
theorem fit10 (a : Option Addr) (n cap : Nat) (I : Nat → Int) (S : Nat → ByteArray) (any : ByteArray) (odd : Bool) (ma : Option Addr) (ml mc : Nat) (w : World)
    (hlm : n ≤ maxLen) (hmm : ml ≤ maxLen) (hc : CellsAt w a n I S) (hs : ∀ i, i < n → (S i).size ≤ maxLen) (hany : any.size ≤ maxLen) :
    Calls Try.prog 10 #[.agg #[.slice a n cap, .string any, .bool odd], .agg #[.slice none 0 0, .string ByteArray.empty, .bool false], .slice ma ml mc, .slice none 0 0] w fun e w' => SomeBool e ∧ Below w.heap.size w w' := by
  have hlm' := hlm
  have hany' := hany
  unfold maxLen at hmm hlm' hany'
  go_enter Try.func10, Try.ntmps10
  go_wp2_with fail
  · rw [show (8 * (ml : Int)) = ((8 * ml : Nat) : Int) from by omega]
    refine (prof38 (8 * ml) _ _ _ I S _ _ _ (by omega) hlm ((hc.alloc _).alloc _) hs hany).mono ?_
    rintro e w1 ⟨⟨t1, rfl, ht1⟩, hb1⟩
    obtain ⟨hc1, hf1⟩ := bcell hb1
    have hz1 : w.heap.size + 1 < w1.heap.size := by have := hb1.size; simp at this; omega
    go_wp2_with fail
    refine (prof38 _ _ _ _ I S _ _ _ (by omega) (by unfold maxLen; omega) (cellsAt_zero _ _ _ _) (fun i hi => by omega) (by unfold maxLen; decide)).mono ?_
    rintro e w2 ⟨⟨t2, rfl, ht2⟩, hb2⟩
    go_wp2_with fail
    go_ret
    exact ⟨⟨_, rfl⟩, (((Below.refl _ _).alloc (Nat.le_refl _) _).alloc (by simp) _).trans ((hb1.mono (by simp; omega)).trans (hb2.mono (by omega)))⟩
  all_goals
    go_ret
    exact ⟨⟨_, rfl⟩, ((Below.refl _ _).alloc (Nat.le_refl _) _).alloc (by simp) _⟩

theorem Try.info80 : (Try.prog.info? 80).map (fun i => (i.zero, i.size, i.bytes)) = some (some (.agg #[.int .u32 0, .int .u32 0]), 2, 8) := by kernel_rfl

/-- a slice of n Moves that lies at a -/
def MovesAt (w : World) (a : Option Addr) (n : Nat) (F T : Nat → Int) : Prop :=
  ∀ i, i < n → ∃ b off, a = some ⟨b, off, none⟩ ∧ b < w.heap.size ∧ w.cell? ⟨b, off + i * 2, none⟩ = some (.int .u32 (F i)) ∧
    w.cell? ⟨b, off + i * 2 + 1, none⟩ = some (.int .u32 (T i))

theorem make31 (n : Nat) (hn : n ≤ 65536) (w : World) : (Instr.makeSlice 31 (.int .i64 n) (.int .i64 n)).run Try.prog w = .ok (.slice (some ⟨w.heap.size, 0, none⟩) n n) (w.alloc (.cells (rowOf (n * 2) (fun _ => .int .u32 0)) 80)) := by
  obtain ⟨i, hi, hz, h1, h2⟩ := info_parts Try.info80
  refine make_row w 31 80 i _ 2 Try.underlying31 hi hz h1 .i64 .i64 n (by rw [h2]; omega) (by unfold maxLen; omega) _ (fun j hj => ?_)
  simp only [Value.cells]
  have : j % 2 = 0 ∨ j % 2 = 1 := by omega
  rcases this with h | h <;> simp [h]

theorem eqnil25 (x : Addr) (n cap : Nat) (w : World) : (binOp BinOp.eql 25 (.slice (some x) n cap) (.slice none 0 0)).run Try.prog w = .ok (.bool false) w := by
  kernel_rfl
theorem eqnil25' (w : World) : (binOp BinOp.eql 25 (.slice none 0 0) (.slice none 0 0)).run Try.prog w = .ok (.bool true) w := by
  kernel_rfl

set_option maxHeartbeats 400000 in
theorem moves13 (x : Addr) (n cap : Nat) (F T : Nat → Int) (w : World) (hn : n ≤ 65536) (hc : MovesAt w (some x) n F T) :
    Calls Try.prog 13 #[.slice (some x) n cap] w fun e w' => ∃ g, e = .returned (.slice (some ⟨g, 0, none⟩) n n) ∧ w.heap.size ≤ g ∧ RowB w' g 80 (n * 2) (fun j => .int .u32 (if j % 2 = 0 then F (j / 2) else T (j / 2))) ∧ Below w.heap.size w w' := by
  have hmk := make31 n hn
  have hnil := eqnil25 x n cap
  go_enter Try.func13, Try.ntmps13
  go_wp2
  go_loopw [12] (fun i wr => ∃ k : Nat, k ≤ n ∧ i = .int .i64 k ∧ RowB wr w.heap.size 80 (n * 2) (fun j => .int .u32 (if j < k * 2 then (if j % 2 = 0 then F (j / 2) else T (j / 2)) else 0)) ∧ Below w.heap.size w wr) (fun i _ => n - (intOf i).toNat)
  case atStart => exact ⟨0, Nat.zero_le _, rfl, (rowB_new _ _ _ _).congr (fun i hi => by simp), (Below.refl _ _).alloc (Nat.le_refl _) _⟩
  case round =>
    obtain ⟨k, hk, rfl, hrow, hnx⟩ := hrel
    by_cases hlt : k < n
    · obtain ⟨b, off, hx, hb, h0, h1⟩ := hc k hlt
      obtain rfl : x = ⟨b, off, none⟩ := by simpa using hx
      have h0' := (hnx.cell (p := ⟨b, off + k * 2, none⟩) hb).trans h0
      have h1' := (hnx.cell (p := ⟨b, off + k * 2 + 1, none⟩) hb).trans h1
      have g0 := hrow.cell (i := k * 2) (by omega)
      have g1 := hrow.cell (i := k * 2 + 1) (by omega)
      have f0 := hrow.frozen (k * 2)
      have f1 := hrow.frozen (k * 2 + 1)
      go_wp2
      go_roundw
      case rel =>
        refine ⟨k + 1, by omega, by go_num, ((hrow.setCell _).setCell _).congr (fun j hj => ?_), (hnx.setCell (Nat.le_refl _) _).setCell (Nat.le_refl _) _⟩
        by_cases e1 : j = k * 2 + 1
        · subst e1
          simp [show (k * 2 + 1) / 2 = k by omega, show k * 2 + 1 < (k + 1) * 2 by omega]
        · by_cases e0 : j = k * 2
          · subst e0
            simp [show k * 2 < (k + 1) * 2 by omega]
          · rw [if_neg e1, if_neg e0]
            by_cases e2 : j < k * 2
            · have e3 : j < (k + 1) * 2 := by omega
              simp only [e2, e3, if_true]
            · have e3 : ¬ j < (k + 1) * 2 := by omega
              simp only [e2, e3, if_false]
      case measure => simp [intOf]; omega
    · go_wp2
      go_ret
      refine ⟨_, rfl, Nat.le_refl _, hrow.congr (fun j hj => ?_), hnx⟩
      have e3 : j < k * 2 := by omega
      simp only [e3, if_true]

set_option maxHeartbeats 400000 in
theorem moves13_nil (w : World) : Calls Try.prog 13 #[.slice none 0 0] w fun e w' => e = .returned (.slice none 0 0) ∧ w' = w := by
  have hnil := eqnil25'
  go_enter Try.func13, Try.ntmps13
  go_wp2
  go_ret
  exact ⟨rfl, rfl⟩

/-! ### zzOwnMap -/
theorem law42 : Go.Maps.Keyed Try.prog 42 := Go.Maps.int_keyed Try.underlying42
theorem key42 {a : Int} (h : (Lit.int .u32 a).wf = true) : keyOf Try.prog 42 (.int .u32 a) = some (.int .u32 a) := Go.Maps.keyOf_int_mk Try.underlying42 h
def ekU (a : Int) : Value := .int .u32 a
def evS (s : ByteArray) : Value := .string s
theorem ekU_inj (x y : Int) (h : ekU x = ekU y) : x = y := by simpa [ekU] using h
theorem zero9 (w : World) : (zeroValue 9).run Try.prog w = .ok (.string ByteArray.empty) w := by kernel_rfl
theorem make29 (w : World) (n : Int) : (Instr.makeMap 29 (some (.int .i64 n))).run Try.prog w = .ok (.map (some w.heap.size)) (w.alloc (.map #[] 0)) := by kernel_rfl

/-- the map that zzOwnMap makes of the first k cells -/
def ownL (I : Nat → Int) (S : Nat → ByteArray) : Nat → List (Int × ByteArray)
  | 0 => []
  | k + 1 => aput (ownL I S k) (I k) (S k)

set_option maxHeartbeats 400000 in
theorem own12 (a : Option Addr) (n cap : Nat) (I : Nat → Int) (S : Nat → ByteArray) (w : World) (hn : n ≤ 65536) (hc : CellsAt w a n I S) (hI : ∀ i, i < n → (Lit.int .u32 (I i)).wf = true) :
    Calls Try.prog 12 #[.slice a n cap] w fun e w' => ∃ g, e = .returned (.map (some g)) ∧ w.heap.size ≤ g ∧ MapL w' Try.prog 42 g ekU evS (ownL I S n) ∧ Below w.heap.size w w' := by
  have hmm := make29
  go_enter Try.func12, Try.ntmps12
  go_wp2
  go_loopw [10] (fun i wr => ∃ k : Nat, k ≤ n ∧ i = .int .i64 k ∧ MapL wr Try.prog 42 w.heap.size ekU evS (ownL I S k) ∧ Below w.heap.size w wr) (fun i _ => n - (intOf i).toNat)
  case atStart => exact ⟨0, Nat.zero_le _, rfl, MapL_made _ _ _ _ _, (Below.refl _ _).alloc (Nat.le_refl _) _⟩
  case round =>
    obtain ⟨k, hk, rfl, hmap, hnx⟩ := hrel
    by_cases hlt : k < n
    · obtain ⟨b, off, rfl, hb, h0, h1⟩ := hc k hlt
      have h0' := (hnx.cell (p := ⟨b, off + k * 2, none⟩) hb).trans h0
      have h1' := (hnx.cell (p := ⟨b, off + k * 2 + 1, none⟩) hb).trans h1
      obtain ⟨w1, hu, hm1, ht1⟩ := hmap.drew.update law42 ekU_inj Try.underlying29 (key42 (hI k hlt)) (S k)
      unfold ekU evS at hu
      clear hmm
      have hd1 : Below w.heap.size wr.drew w1 := (Below.refl _ _).grown ht1.grown hnx.size (fun j hj => by cases hj; exact Nat.le_refl _)
      have h0w := (hd1.cell (p := ⟨b, off + k * 2, none⟩) hb).trans h0'
      have h1w := (hd1.cell (p := ⟨b, off + k * 2 + 1, none⟩) hb).trans h1'
      go_wp2
      go_region_held3 (fun w' => w'.cell? ⟨b, off + k * 2, none⟩ = some (.int .u32 (I k)) ∧ w'.cell? ⟨b, off + k * 2 + 1, none⟩ = some (.string (S k))) (go_keep) (fail)
      go_wp2
      go_roundw
      case rel => exact ⟨k + 1, by omega, by go_num, hm1, hnx.drew.trans hd1⟩
      case measure => simp [intOf]; omega
    · go_wp2
      go_ret
      obtain rfl : k = n := by omega
      exact ⟨_, rfl, Nat.le_refl _, hmap, hnx⟩
end Go.Proofs.Qxb6602988a
