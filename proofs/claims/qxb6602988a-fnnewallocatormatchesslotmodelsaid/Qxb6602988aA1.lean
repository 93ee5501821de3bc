/-
  The allocator's laws: the plain readers of slots and verdicts.
-/
import Derived.Test.Qxb6602988aProg
import Derived.Test.Qxb6602988aMaps2
import Derived.Test.Qxb6602988aRowB
import Derived.Deep.RegionHeld3
import Derived.DeepKeys4
namespace Go.Proofs.Qxb6602988a
open Go.RowKit
set_option linter.unusedVariables false
set_option linter.unusedSimpArgs false

/-- a slice of n Slots that lies at a: (At, Verdict, ProxyPort) -/
def SlotsAt (w : World) (a : Option Addr) (n : Nat) (A : Nat → Nat) (V P : Nat → Int) : Prop :=
  ∀ i, i < n → ∃ b off, a = some ⟨b, off, none⟩ ∧ b < w.heap.size ∧ w.cell? ⟨b, off + i * 3, none⟩ = some (.int .u32 (A i)) ∧
    w.cell? ⟨b, off + i * 3 + 1, none⟩ = some (.int .u8 (V i)) ∧ w.cell? ⟨b, off + i * 3 + 2, none⟩ = some (.int .u16 (P i))
theorem SlotsAt.below {w w' : World} {a : Option Addr} {n : Nat} {A : Nat → Nat} {V P : Nat → Int} {B : Nat} (h : SlotsAt w a n A V P) (hb : Below B w w') (hB : w.heap.size ≤ B) : SlotsAt w' a n A V P := fun i hi => by
  obtain ⟨b, off, e, hlt, h0, h1, h2⟩ := h i hi
  have hb' := hb.size
  exact ⟨b, off, e, by omega, (hb.cell (by show b < B; omega)).trans h0, (hb.cell (by show b < B; omega)).trans h1, (hb.cell (by show b < B; omega)).trans h2⟩
/-- a slice of n Vs that lies at a -/
def VsAt (w : World) (a : Option Addr) (n : Nat) (V P : Nat → Int) : Prop :=
  ∀ i, i < n → ∃ b off, a = some ⟨b, off, none⟩ ∧ b < w.heap.size ∧ w.cell? ⟨b, off + i * 2, none⟩ = some (.int .u8 (V i)) ∧ w.cell? ⟨b, off + i * 2 + 1, none⟩ = some (.int .u16 (P i))
theorem VsAt.below {w w' : World} {a : Option Addr} {n : Nat} {V P : Nat → Int} {B : Nat} (h : VsAt w a n V P) (hb : Below B w w') (hB : w.heap.size ≤ B) : VsAt w' a n V P := fun i hi => by
  obtain ⟨b, off, e, hlt, h0, h1⟩ := h i hi
  have hb' := hb.size
  exact ⟨b, off, e, by omega, (hb.cell (by show b < B; omega)).trans h0, (hb.cell (by show b < B; omega)).trans h1⟩

/-- the verdict of a slot -/
def evV (x : Int × Int) : Value := .agg #[.int .u8 x.1, .int .u16 x.2]
theorem evV_inj (x y : Int × Int) (h : evV x = evV y) : x = y := by
  simp [evV] at h
  exact Prod.ext h.1 h.2
theorem law57 : Go.Maps.Keyed Try.prog 57 := Go.Maps.Keyed.of_law (deep_law_laid (P := Try.prog) (by kernel_rfl) (m := 10) (by omega) (k := 57) (of_decide_eq_true (by kernel_rfl)) (by kernel_rfl) (by kernel_rfl))
theorem Try.cells57 : Try.prog.cellsOf 57 = 2 := by kernel_rfl
theorem Try.cells54 : Try.prog.cellsOf 54 = 1 := by kernel_rfl
theorem Try.cells55 : Try.prog.cellsOf 55 = 1 := by kernel_rfl
theorem key57 {x : Int × Int} (h1 : (Lit.int .u8 x.1).wf = true) (h2 : (Lit.int .u16 x.2).wf = true) : ∃ l, keyOf Try.prog 57 (evV x) = some l := by
  have hk : Try.prog.keyType 57 = true := by kernel_rfl
  have hpos : 0 < Try.prog.types.size := of_decide_eq_true (by kernel_rfl)
  obtain ⟨d, hd⟩ : ∃ d, Try.prog.types.size = d + 1 := ⟨Try.prog.types.size - 1, by omega⟩
  unfold keyOf evV
  rw [Try.underlying57, hd]
  simp [hk, Value.formed, Try.underlying57, Try.cells57, Value.cells, Program.keyLits, Try.underlying54, Try.underlying55, Try.cells54, Try.cells55, h1, h2]

set_option maxHeartbeats 400000 in
theorem verd32 (at' v p : Int) (w : World) :
    Calls Try.prog 32 #[.agg #[.int .u32 at', .int .u8 v, .int .u16 p]] w fun e w' => e = .returned (.agg #[.int .u8 v, .int .u16 p]) ∧ Below w.heap.size w w' := by
  go_enter Try.func32, Try.ntmps32
  go_wp2
  exact bodyPost_ret (v := .agg #[.int .u8 v, .int .u16 p]) (by simp [results, Try.results32, go_sem]) rfl ⟨rfl, ((Below.refl _ _).alloc (Nat.le_refl _) _).alloc (by simp) _⟩
set_option maxHeartbeats 400000 in
theorem verd34 (v p : Int) (w : World) :
    Calls Try.prog 34 #[.agg #[.int .u8 v, .int .u16 p]] w fun e w' => e = .returned (.agg #[.int .u8 v, .int .u16 p]) ∧ Below w.heap.size w w' := by
  go_enter Try.func34, Try.ntmps34
  go_wp2
  exact bodyPost_ret (v := .agg #[.int .u8 v, .int .u16 p]) (by simp [results, Try.results34, go_sem]) rfl ⟨rfl, ((Below.refl _ _).alloc (Nat.le_refl _) _).alloc (by simp) _⟩

def SomeBool2 (e : Ending) : Prop := ∃ t, e = .returned (.bool t)
set_option maxHeartbeats 400000 in
theorem bytes37 (hw : Int) (ua aa sa : Option Addr) (un uc an ac sn sc : Nat) (w : World) (h1 : un ≤ maxLen) (h2 : an ≤ maxLen) (h3 : sn ≤ maxLen) :
    Calls Try.prog 37 #[.int .i64 hw, .slice ua un uc, .slice aa an ac, .slice sa sn sc] w fun e w' => SomeBool2 e ∧ w' = w := by
  unfold maxLen at *
  go_enter Try.func37, Try.ntmps37
  go_wp2
  all_goals
    go_ret
    exact ⟨⟨_, rfl⟩, rfl⟩
set_option maxHeartbeats 400000 in
theorem bytes33 (hw : Int) (ua aa sa : Option Addr) (un uc an ac sn sc : Nat) (w : World) (h1 : un ≤ maxLen) (h2 : an ≤ maxLen) (h3 : sn ≤ maxLen) :
    Calls Try.prog 33 #[.int .i64 hw, .slice ua un uc, .slice aa an ac, .slice sa sn sc] w fun e w' => SomeBool2 e ∧ w' = w := by
  unfold maxLen at *
  go_enter Try.func33, Try.ntmps33
  go_wp2
  all_goals
    go_ret
    exact ⟨⟨_, rfl⟩, rfl⟩
set_option maxHeartbeats 400000 in
theorem bytes16 (hw : Int) (ua aa : Option Addr) (un uc an ac : Nat) (w : World) (h1 : un ≤ maxLen) (h2 : an ≤ maxLen) :
    Calls Try.prog 16 #[.int .i64 hw, .slice ua un uc, .slice aa an ac] w fun e w' => SomeBool2 e ∧ w' = w := by
  unfold maxLen at *
  go_enter Try.func16, Try.ntmps16
  go_wp2
  all_goals
    go_ret
    exact ⟨⟨_, rfl⟩, rfl⟩

/-- zzSlotsFit answers some bool; true only where each used slot is at most 65536 -/
def FitSays (n : Nat) (A : Nat → Nat) (e : Ending) : Prop := e = .returned (.bool false) ∨ (e = .returned (.bool true) ∧ ∀ i, i < n → A i ≤ 65536)
set_option maxHeartbeats 400000 in
theorem fit17 (hw : Int) (ua aa sa : Option Addr) (un uc an ac sn sc : Nat) (A : Nat → Nat) (V P : Nat → Int) (w : World) (h1 : un ≤ 65536) (h2 : an ≤ 32768) (h3 : sn ≤ 65536) (hu : SlotsAt w ua un A V P) :
    Calls Try.prog 17 #[.int .i64 hw, .slice ua un uc, .slice aa an ac, .slice sa sn sc] w fun e w' => FitSays un A e ∧ w' = w := by
  go_enter Try.func17, Try.ntmps17
  go_wp2
  all_goals first
    | (go_ret; exact ⟨.inl rfl, rfl⟩)
    | skip
  go_loop [31] (fun i => ∃ k : Nat, k ≤ un ∧ i = .int .i64 k ∧ ∀ j, j < k → A j ≤ 65536) (fun i => un - (intOf i).toNat)
  case atStart => exact ⟨0, Nat.zero_le _, rfl, fun j hj => by omega⟩
  case round =>
    obtain ⟨k, hk, rfl, hall⟩ := hrel
    have HA : Hid (∀ j, j < k → A j ≤ 65536) := hall
    clear hall
    by_cases hlt : k < un
    · obtain ⟨b, off, rfl, hb, c0, c1, c2⟩ := hu k hlt
      go_wp2
      · go_ret
        exact ⟨.inl rfl, rfl⟩
      · have hle : A k ≤ 65536 := by omega
        go_round
        case rel => exact ⟨k + 1, by omega, by go_num, fun j hj => by
                      by_cases e : j = k
                      · rw [e]; exact hle
                      · exact HA.out j (by omega)⟩
        case measure => simp [intOf]; omega
    · go_wp2
      go_ret
      obtain rfl : k = un := by omega
      exact ⟨.inr ⟨rfl, HA.out⟩, rfl⟩
end Go.Proofs.Qxb6602988a
