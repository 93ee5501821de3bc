import Derived.Test.Qxb6602988aProg
import Derived.Test.Qxb6602988aMaps
import Derived.WalkKit
namespace Go.Proofs.Qxb6602988a
open Go.RowKit
set_option linter.unusedVariables false

def SomeBool (e : Ending) : Prop := ∃ t, e = .returned (.bool t)
def SomeNat (N : Nat) (e : Ending) : Prop := ∃ t : Nat, e = .returned (.int .i64 t) ∧ t ≤ N
/-- a slice of n Cells that lies at a: (ID, Cells) -/
def CellsAt (w : World) (a : Option Addr) (n : Nat) (I : Nat → Int) (S : Nat → ByteArray) : Prop :=
  ∀ i, i < n → ∃ b off, a = some ⟨b, off, none⟩ ∧ b < w.heap.size ∧ w.cell? ⟨b, off + i * 2, none⟩ = some (.int .u32 (I i)) ∧
    w.cell? ⟨b, off + i * 2 + 1, none⟩ = some (.string (S i))

set_option maxHeartbeats 400000 in
theorem bytes15 (a : Option Addr) (n cap : Nat) (I : Nat → Int) (S : Nat → ByteArray) (any : ByteArray) (odd : Bool) (ma : Option Addr) (ml mc : Nat) (w : World)
    (hlm : n ≤ maxLen) (hmm : ml ≤ maxLen) (hc : CellsAt w a n I S) (hs : ∀ i, i < n → (S i).size ≤ maxLen) (hany : any.size ≤ maxLen) :
    Calls Try.prog 15 #[.agg #[.slice a n cap, .string any, .bool odd], .slice ma ml mc] w fun e w' => SomeBool e ∧ Below w.heap.size w w' := by
  unfold maxLen at *
  go_enter Try.func15, Try.ntmps15
  go_wp2
  · go_ret
    exact ⟨⟨_, rfl⟩, (Below.refl _ _).alloc (Nat.le_refl _) _⟩
  · go_loop [5, 6] (fun z i => ∃ k m : Nat, k ≤ n ∧ m ≤ 1048576 ∧ i = .int .i64 k ∧ z = .int .i64 m) (fun _ i => n - (intOf i).toNat)
    case atStart => exact ⟨0, n, by omega, by omega, rfl, by go_num⟩
    case round =>
      obtain ⟨k, m, hk, hm, rfl, rfl⟩ := hrel
      by_cases hlt : k < n
      · obtain ⟨b, off, rfl, hb, h0, h1⟩ := hc k hlt
        have hsk := hs k hlt
        go_wp2
        · go_ret
          exact ⟨⟨_, rfl⟩, (Below.refl _ _).alloc (Nat.le_refl _) _⟩
        · go_ret
          exact ⟨⟨_, rfl⟩, (Below.refl _ _).alloc (Nat.le_refl _) _⟩
        · go_round
          case rel => exact ⟨k + 1, m + (S k).size, by omega, by omega, by go_num, by go_num⟩
          case measure => simp [intOf]; omega
      · go_wp2
        all_goals
          go_ret
          exact ⟨⟨_, rfl⟩, (Below.refl _ _).alloc (Nat.le_refl _) _⟩

set_option maxHeartbeats 400000 in
theorem prof38 (t : Nat) (a : Option Addr) (n cap : Nat) (I : Nat → Int) (S : Nat → ByteArray) (any : ByteArray) (odd : Bool) (w : World)
    (ht : t ≤ 1099511627776) (hlm : n ≤ maxLen) (hc : CellsAt w a n I S) (hs : ∀ i, i < n → (S i).size ≤ maxLen) (hany : any.size ≤ maxLen) :
    Calls Try.prog 38 #[.int .i64 t, .agg #[.slice a n cap, .string any, .bool odd]] w fun e w' => SomeNat 1099511627776 e ∧ Below w.heap.size w w' := by
  unfold maxLen at *
  go_enter Try.func38, Try.ntmps38
  go_wp2
  all_goals first
    | (go_ret; exact ⟨⟨1048577, rfl, by omega⟩, (Below.refl _ _).alloc (Nat.le_refl _) _⟩)
    | skip
  go_loop [0, 28] (fun z i => ∃ k m : Nat, k ≤ n ∧ m ≤ 4194304 ∧ i = .int .i64 k ∧ z = .int .i64 m) (fun _ i => n - (intOf i).toNat)
  case atStart => exact ⟨0, t + any.size, by omega, by omega, rfl, by go_num⟩
  case round =>
    obtain ⟨k, m, hk, hm, rfl, rfl⟩ := hrel
    by_cases hlt : k < n
    · obtain ⟨b, off, rfl, hb, h0, h1⟩ := hc k hlt
      have hsk := hs k hlt
      go_wp2
      all_goals first
        | (go_ret; exact ⟨⟨1048577, rfl, by omega⟩, (Below.refl _ _).alloc (Nat.le_refl _) _⟩)
        | skip
      go_round
      case rel => exact ⟨k + 1, m + (24 + (S k).size), by omega, by omega, by go_num, by go_num⟩
      case measure => simp [intOf]; omega
    · go_wp2
      go_ret
      exact ⟨⟨m, rfl, by omega⟩, (Below.refl _ _).alloc (Nat.le_refl _) _⟩

theorem CellsAt.below {w w' : World} {a : Option Addr} {n : Nat} {I : Nat → Int} {S : Nat → ByteArray} {B : Nat} (h : CellsAt w a n I S) (hb : Below B w w') (hB : w.heap.size ≤ B) : CellsAt w' a n I S := fun i hi => by
  obtain ⟨b, off, e, hlt, h0, h1⟩ := h i hi
  have hb' := hb.size
  exact ⟨b, off, e, by omega, (hb.cell (by show b < B; omega)).trans h0, (hb.cell (by show b < B; omega)).trans h1⟩
theorem CellsAt.alloc {w : World} {a : Option Addr} {n : Nat} {I : Nat → Int} {S : Nat → ByteArray} (h : CellsAt w a n I S) (o : Obj) : CellsAt (w.alloc o) a n I S :=
  h.below ((Below.refl _ _).alloc (Nat.le_refl _) _) (Nat.le_refl _)
theorem cellsAt_zero (w : World) (a : Option Addr) (I : Nat → Int) (S : Nat → ByteArray) : CellsAt w a 0 I S := fun i hi => by omega

theorem bcell {W w1 : World} (hb : Below W.heap.size W w1) : (∀ b o, b < W.heap.size → w1.cell? ⟨b, o, none⟩ = W.cell? ⟨b, o, none⟩) ∧ (∀ b o, b < W.heap.size → w1.frozen? ⟨b, o, none⟩ = W.frozen? ⟨b, o, none⟩) :=
  ⟨fun b o h => hb.cell (p := ⟨b, o, none⟩) h, fun b o h => hb.frozen (p := ⟨b, o, none⟩) h⟩

end Go.Proofs.Qxb6602988a
