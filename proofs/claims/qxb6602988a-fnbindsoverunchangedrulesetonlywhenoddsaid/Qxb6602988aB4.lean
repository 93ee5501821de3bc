import Derived.Test.Qxb6602988aB3
namespace Go.Proofs.Qxb6602988a
open Go.RowKit
set_option linter.unusedVariables false

/-- what zzToMoves hands on, nil or not -/
theorem moves13_any (a : Option Addr) (n cap : Nat) (F T : Nat → Int) (w : World) (hn : n ≤ 65536) (hc : MovesAt w a n F T) (ha : a = none → n = 0 ∧ cap = 0) :
    Calls Try.prog 13 #[.slice a n cap] w fun e w' => ∃ b c, e = .returned (.slice b n c) ∧ Below w.heap.size w w' ∧
      (0 < n → ∃ g, b = some ⟨g, 0, none⟩ ∧ RowB w' g 80 (n * 2) (fun j => .int .u32 (if j % 2 = 0 then F (j / 2) else T (j / 2)))) := by
  cases a with
  | none =>
    obtain ⟨rfl, rfl⟩ := ha rfl
    exact (moves13_nil w).mono fun e w' ⟨he, hw⟩ => ⟨none, 0, he, hw ▸ Below.refl _ _, fun h => by omega⟩
  | some x => exact (moves13 x n cap F T w hn hc).mono fun e w' ⟨g, he, hg, hr, hb⟩ => ⟨_, _, he, hb, fun _ => ⟨g, rfl, hr⟩⟩

theorem binds14 (p q : Nat) (hpq : p ≠ q) (n : Nat) (hn2 : n ≤ 65536) (c : Nat) (a : Option Addr) (F T : Nat → Int) (m1 m2 : Nat) (L : List (Int × ByteArray)) (any : ByteArray) (odd : Bool) (w : World)
    (h1 : ProfAt w p m1 L any odd) (h2 : ProfAt w q m2 L any odd) (hrow : 0 < n → ∃ g, a = some ⟨g, 0, none⟩ ∧ RowB w g 80 (n * 2) (fun j => .int .u32 (if j % 2 = 0 then F (j / 2) else T (j / 2))))
    (hF : ∀ i, i < n → (Lit.int .u32 (F i)).wf = true) (hT : ∀ i, i < n → (Lit.int .u32 (T i)).wf = true) :
    Calls Try.prog 14 #[.pointer (some ⟨p, 0, none⟩), .pointer (some ⟨q, 0, none⟩), .slice a n c] w fun e w' => e = .returned (.bool (decide (0 < n) && odd)) ∧ Below w.heap.size w w' := by
  refine zzbinds14 p q _ _ w _ ⟨_, _, _, rfl⟩ ?_
  by_cases hn : 0 < n
  · obtain ⟨g, rfl, hr⟩ := hrow hn
    cases odd with
    | true => exact (binds_odd p q hpq n hn c _ m1 m2 L any w h1 h2).mono fun e w' ⟨he, hw⟩ => ⟨by simp [he, hn], hw ▸ Below.refl _ _⟩
    | false => exact (binds_even p q hpq n hn hn2 c g F T m1 m2 L any w h1 h2 hr hF hT).mono fun e w' ⟨he, hw⟩ => ⟨by simp [he], hw⟩
  · obtain rfl : n = 0 := by omega
    exact (binds_none p q c a w).mono fun e w' ⟨he, hw⟩ => ⟨by simp [he], hw ▸ Below.refl _ _⟩

theorem MovesAt.below {w w' : World} {a : Option Addr} {n : Nat} {F T : Nat → Int} {B : Nat} (h : MovesAt w a n F T) (hb : Below B w w') (hB : w.heap.size ≤ B) : MovesAt w' a n F T := fun i hi => by
  obtain ⟨b, off, e, hlt, h0, h1⟩ := h i hi
  have hb' := hb.size
  exact ⟨b, off, e, by omega, (hb.cell (by show b < B; omega)).trans h0, (hb.cell (by show b < B; omega)).trans h1⟩

set_option maxHeartbeats 1000000 in
theorem walk4 (a : Option Addr) (n cap : Nat) (I : Nat → Int) (S : Nat → ByteArray) (any : ByteArray) (odd : Bool) (ma : Option Addr) (ml mc : Nat) (F T : Nat → Int) (w : World)
    (hlm : n ≤ maxLen) (hmm : ml ≤ maxLen) (hc : CellsAt w a n I S) (hI : ∀ i, i < n → (Lit.int .u32 (I i)).wf = true) (hs : ∀ i, i < n → (S i).size ≤ maxLen) (hany : any.size ≤ maxLen)
    (hm : MovesAt w ma ml F T) (hF : ∀ i, i < ml → (Lit.int .u32 (F i)).wf = true) (hT : ∀ i, i < ml → (Lit.int .u32 (T i)).wf = true) (hma : ma = none → ml = 0 ∧ mc = 0) :
    Calls Try.prog 4 #[.agg #[.slice a n cap, .string any, .bool odd], .slice ma ml mc] w fun e w' => e = .returned (.bool true) ∧ Below w.heap.size w w' := by
  have hlm' := hlm
  have hmm' := hmm
  unfold maxLen at hlm' hmm'
  go_enter Try.func4, Try.ntmps4
  go_wp2_with fail
  refine (bytes15 a n cap I S any odd ma ml mc _ hlm hmm (hc.alloc _) hs hany).mono ?_
  rintro e w1 ⟨⟨t, rfl⟩, hb1⟩
  obtain ⟨hc1, hf1⟩ := bcell hb1
  have hz1 : w.heap.size < w1.heap.size := by have := hb1.size; simp at this; omega
  have hB1 : Below w.heap.size w w1 := ((Below.refl _ _).alloc (Nat.le_refl _) _).trans (hb1.mono (by simp))
  have d0 := hc1 w.heap.size 0 (by simp)
  have d1 := hc1 w.heap.size 1 (by simp)
  have d2 := hc1 w.heap.size 2 (by simp)
  simp at d0 d1 d2
  clear hc1 hf1
  cases t
  · go_wp2_with fail
    go_ret
    exact ⟨rfl, hB1⟩
  go_wp2_with fail
  · go_ret
    exact ⟨rfl, hB1⟩
  · rw [show ({ data := #[] } : ByteArray) = ByteArray.empty from rfl]
    refine (fit10 a n cap I S any odd ma ml mc _ hlm hmm (hc.below hB1 (Nat.le_refl _)) hs hany).mono ?_
    rintro e w2 ⟨⟨t, rfl⟩, hb2⟩
    have hB2 : Below w.heap.size w w2 := hB1.trans (hb2.mono (by omega))
    have hz2 : w.heap.size < w2.heap.size := by have := hb2.size; omega
    obtain ⟨hc2, hf2⟩ := bcell hb2
    have g0 := (hc2 w.heap.size 0 hz1).trans d0
    have g1 := (hc2 w.heap.size 1 hz1).trans d1
    have g2 := (hc2 w.heap.size 2 hz1).trans d2
    clear hc2 hf2 d0 d1 d2
    cases t
    · go_wp2_with fail
      go_ret
      exact ⟨rfl, hB2⟩
    go_wp2_with fail
    go_region_held3 (fun w' => w'.cell? ⟨w.heap.size, 0, none⟩ = some (.slice a n cap) ∧ w'.cell? ⟨w.heap.size, 1, none⟩ = some (.string any) ∧ w'.cell? ⟨w.heap.size, 2, none⟩ = some (.bool odd)) (go_keep)
      ((first
        | (go_at_call 12; refine (own12 a n cap I S _ (by omega) ?_ hI).mono ?_; exact (hc.below hB2.drew (Nat.le_refl _)); rintro e w3 ⟨m1, rfl, hm1, hM1, hb3⟩; have k0 := (hb3.cell (p := ⟨w.heap.size, 0, none⟩) hz2).trans g0; have k1 := (hb3.cell (p := ⟨w.heap.size, 1, none⟩) hz2).trans g1; have k2 := (hb3.cell (p := ⟨w.heap.size, 2, none⟩) hz2).trans g2)
        | (go_at_call 11; refine (profile11 _ _ _ _).mono ?_; rintro e w' ⟨rfl, rfl⟩)))
    rename_i hH3
    obtain ⟨j0, j1, j2⟩ := hH3
    have hP3 : ProfAt (w3.alloc (.cells #[.map (some m1), .string any, .bool odd] 78)) w3.heap.size m1 (ownL I S n) any odd := ⟨(MapKept.heap_alloc w3 _).1, hM1.alloc _⟩
    have hB3 : Below w.heap.size w (w3.alloc (.cells #[.map (some m1), .string any, .bool odd] 78)) := (hB2.drew.trans (hb3.mono (Nat.le_of_lt hz2))).alloc (hB2.drew.trans (hb3.mono (Nat.le_of_lt hz2))).size _
    have hz3 : w.heap.size < (w3.alloc (.cells #[.map (some m1), .string any, .bool odd] 78)).heap.size := by have := hb3.size; simp; simp at this; omega
    clear k0 k1 k2 hM1 hb3 g0 g1 g2 hm1
    generalize w3.heap.size = p1 at hP3 ⊢
    generalize (w3.alloc (.cells #[.map (some m1), .string any, .bool odd] 78)) = W3 at *
    clear w3
    go_wp2_with fail
    go_region_held3 (fun w' => w'.cell? ⟨w.heap.size, 0, none⟩ = some (.slice a n cap) ∧ w'.cell? ⟨w.heap.size, 1, none⟩ = some (.string any) ∧ w'.cell? ⟨w.heap.size, 2, none⟩ = some (.bool odd)) (go_keep)
      ((first
        | (go_at_call 12; refine (own12 a n cap I S _ (by omega) ?_ hI).mono ?_; exact (hc.below hB3.drew (Nat.le_refl _)); rintro e w3 ⟨m2, rfl, hm2, hM2, hb4⟩; have k0 := (hb4.cell (p := ⟨w.heap.size, 0, none⟩) hz3).trans j0; have k1 := (hb4.cell (p := ⟨w.heap.size, 1, none⟩) hz3).trans j1; have k2 := (hb4.cell (p := ⟨w.heap.size, 2, none⟩) hz3).trans j2)
        | (go_at_call 11; refine (profile11 _ _ _ _).mono ?_; rintro e w' ⟨rfl, rfl⟩)))
    rename_i hH4
    obtain ⟨i0, i1, i2⟩ := hH4
    have hP4 : ProfAt (w3.alloc (.cells #[.map (some m2), .string any, .bool odd] 78)) w3.heap.size m2 (ownL I S n) any odd := ⟨(MapKept.heap_alloc w3 _).1, hM2.alloc _⟩
    have hP4' : ProfAt (w3.alloc (.cells #[.map (some m2), .string any, .bool odd] 78)) p1 m1 (ownL I S n) any odd := (hP3.drew.below hb4 hP3.lt hP3.map.lt).alloc _
    have hB4 : Below w.heap.size w (w3.alloc (.cells #[.map (some m2), .string any, .bool odd] 78)) := (hB3.drew.trans (hb4.mono (Nat.le_of_lt hz3))).alloc (hB3.drew.trans (hb4.mono (Nat.le_of_lt hz3))).size _
    have hne : p1 ≠ w3.heap.size := by have := hP3.lt; have := hb4.size; simp at this; omega
    have hz4 : w.heap.size < (w3.alloc (.cells #[.map (some m2), .string any, .bool odd] 78)).heap.size := by have := hb4.size; simp; simp at this; omega
    clear k0 k1 k2 hM2 hb4 j0 j1 j2 hm2 hP3 hB3 hz3 i0 i1
    generalize w3.heap.size = p2 at hP4 hne ⊢
    generalize (w3.alloc (.cells #[.map (some m2), .string any, .bool odd] 78)) = W4 at *
    clear w3 W3
    go_wp2_with fail
    refine (moves13_any ma ml mc F T W4 (by omega) (hm.below hB4 (Nat.le_refl _)) hma).mono ?_
    rintro e w5 ⟨b5, c5, rfl, hb5, hr5⟩
    have i2' := (hb5.cell (p := ⟨w.heap.size, 2, none⟩) hz4).trans i2
    go_wp2_with fail
    refine (binds14 p1 p2 hne ml (by omega) c5 b5 F T m1 m2 _ any odd _ (hP4'.below hb5 hP4'.lt hP4'.map.lt) (hP4.below hb5 hP4.lt hP4.map.lt) hr5 hF hT).mono ?_
    rintro e w6 ⟨rfl, hb6⟩
    have i2'' := (hb6.cell (p := ⟨w.heap.size, 2, none⟩) (by have := hb5.size; show w.heap.size < _; omega)).trans i2'
    have hB6 : Below w.heap.size w w6 := hB4.trans ((hb5.mono (Nat.le_of_lt hz4)).trans (hb6.mono (by have := hb5.size; omega)))
    by_cases hml : 0 < ml
    · have hd : decide ((0 : Int) < (ml : Int)) = true := decide_eq_true (by omega)
      have hd' : decide (0 < ml) = true := decide_eq_true hml
      rw [hd']
      go_wp2_with fail
      go_ret
      exact ⟨by simp, hB6⟩
    · have hd : decide ((0 : Int) < (ml : Int)) = false := decide_eq_false (by omega)
      have hd' : decide (0 < ml) = false := decide_eq_false hml
      rw [hd']
      go_wp2_with fail
      go_ret
      exact ⟨by simp, hB6⟩
  · go_ret
    exact ⟨rfl, hB1⟩
end Go.Proofs.Qxb6602988a
