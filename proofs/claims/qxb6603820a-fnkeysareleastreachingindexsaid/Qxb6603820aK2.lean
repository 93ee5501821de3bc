import Derived.Test.Qxb6603820aRowB
import Derived.Test.Qxb6603820aK1
namespace Go.Proofs.Qxb6603820a
open Go.RowKit Go.WideShapes
set_option linter.unusedVariables false
set_option linter.unusedSimpArgs false

/-- a row of l ints -/
def IntsAt (w : World) (a : Option Addr) (l : Nat) (X : Nat → Int) : Prop := ∀ k, k < l → ∃ b off, a = some ⟨b, off, none⟩ ∧ b < w.heap.size ∧ w.cell? ⟨b, off + k, none⟩ = some (.int .i64 (X k))
/-- a table of n rows -/
structure TabAt (w : World) (a : Option Addr) (n : Nat) (ra : Nat → Option Addr) (RL rc : Nat → Nat) (X : Nat → Nat → Int) : Prop where
  head : ∀ i, i < n → ∃ b off, a = some ⟨b, off, none⟩ ∧ b < w.heap.size ∧ w.cell? ⟨b, off + i, none⟩ = some (.slice (ra i) (RL i) (rc i))
  len : ∀ i, i < n → RL i ≤ maxLen
  rows : ∀ i, i < n → IntsAt w (ra i) (RL i) (X i)
theorem IntsAt.below {w w' : World} {a : Option Addr} {l : Nat} {X : Nat → Int} (h : IntsAt w a l X) {B : Nat} (hb : Below B w w') (hB : w.heap.size ≤ B) : IntsAt w' a l X := fun k hk => by
  obtain ⟨b, off, e, hlt, hc⟩ := h k hk
  exact ⟨b, off, e, Nat.lt_of_lt_of_le hlt hb.size, (hb.cell (p := ⟨b, off + k, none⟩) (Nat.lt_of_lt_of_le hlt hB)).trans hc⟩
theorem TabAt.below {w w' : World} {a : Option Addr} {n : Nat} {ra : Nat → Option Addr} {RL rc : Nat → Nat} {X : Nat → Nat → Int} (h : TabAt w a n ra RL rc X) {B : Nat} (hb : Below B w w') (hB : w.heap.size ≤ B) : TabAt w' a n ra RL rc X :=
  ⟨fun i hi => by
    obtain ⟨b, off, e, hlt, hc⟩ := h.head i hi
    exact ⟨b, off, e, Nat.lt_of_lt_of_le hlt hb.size, (hb.cell (p := ⟨b, off + i, none⟩) (Nat.lt_of_lt_of_le hlt hB)).trans hc⟩, h.len, fun i hi => (h.rows i hi).below hb hB⟩
def SomeB (e : Ending) : Prop := ∃ t, e = .returned (.bool t)

set_option maxHeartbeats 1000000 in
theorem bytes12 (la ea : Option Addr) (ln lc en ec : Nat) (ra1 ra2 : Nat → Option Addr) (RL1 rc1 RL2 rc2 : Nat → Nat) (X1 X2 : Nat → Nat → Int) (w : World) (h1 : ln ≤ maxLen) (h2 : en ≤ maxLen) (hl : TabAt w la ln ra1 RL1 rc1 X1) (he : TabAt w ea en ra2 RL2 rc2 X2) :
    Calls Try.prog 12 #[.slice la ln lc, .slice ea en ec] w fun e w' => SomeB e ∧ w' = w := by
  unfold maxLen at *
  go_enter Try.func12, Try.ntmps12
  by_cases k1 : ln ≤ 1048576
  · go_wp2
    go_loop [5, 6] (fun z i => ∃ j t : Nat, j ≤ ln ∧ t ≤ 1048576 ∧ i = .int .i64 j ∧ z = .int .i64 t) (fun _ i => ln - (intOf i).toNat)
    case atStart => exact ⟨0, ln, Nat.zero_le _, k1, rfl, by go_num⟩
    case round =>
      obtain ⟨j, t, hj, ht, rfl, rfl⟩ := hrel
      by_cases hlt : j < ln
      · obtain ⟨b, off, rfl, hb, hc⟩ := hl.head j hlt
        have hm := hl.len j hlt
        unfold maxLen at hm
        by_cases k2 : RL1 j ≤ 1048576
        · by_cases k3 : t + RL1 j ≤ 1048576
          · go_wp2
            go_round
            case rel => exact ⟨j + 1, t + RL1 j, by omega, k3, by go_num, by go_num⟩
            case measure => simp [intOf]; omega
          · go_wp2
            go_ret
            exact ⟨⟨_, rfl⟩, rfl⟩
        · go_wp2
          go_ret
          exact ⟨⟨_, rfl⟩, rfl⟩
      · by_cases k2 : en ≤ 1048576
        · by_cases k3 : t + en ≤ 1048576
          · go_wp2
            go_loop [5, 7] (fun z i => ∃ j t : Nat, j ≤ en ∧ t ≤ 1048576 ∧ i = .int .i64 j ∧ z = .int .i64 t) (fun _ i => en - (intOf i).toNat)
            case atStart => exact ⟨0, t + en, Nat.zero_le _, k3, rfl, by go_num⟩
            case round =>
              obtain ⟨j', t', hj', ht', rfl, rfl⟩ := hrel
              by_cases hlt' : j' < en
              · obtain ⟨b, off, rfl, hb, hc⟩ := he.head j' hlt'
                have hm := he.len j' hlt'
                unfold maxLen at hm
                by_cases k4 : RL2 j' ≤ 1048576
                · by_cases k5 : t' + RL2 j' ≤ 1048576
                  · go_wp2
                    go_round
                    case rel => exact ⟨j' + 1, t' + RL2 j', by omega, k5, by go_num, by go_num⟩
                    case measure => simp [intOf]; omega
                  · go_wp2
                    go_ret
                    exact ⟨⟨_, rfl⟩, rfl⟩
                · go_wp2
                  go_ret
                  exact ⟨⟨_, rfl⟩, rfl⟩
              · go_wp2
                go_ret
                exact ⟨⟨_, rfl⟩, rfl⟩
          · go_wp2
            go_ret
            exact ⟨⟨_, rfl⟩, rfl⟩
        · go_wp2
          go_ret
          exact ⟨⟨_, rfl⟩, rfl⟩
  · go_wp2
    go_ret
    exact ⟨⟨_, rfl⟩, rfl⟩
set_option maxHeartbeats 1000000 in
theorem bytes5 (la ea : Option Addr) (ln lc en ec : Nat) (ra1 ra2 : Nat → Option Addr) (RL1 rc1 RL2 rc2 : Nat → Nat) (X1 X2 : Nat → Nat → Int) (w : World) (h1 : ln ≤ maxLen) (h2 : en ≤ maxLen) (hl : TabAt w la ln ra1 RL1 rc1 X1) (he : TabAt w ea en ra2 RL2 rc2 X2) :
    Calls Try.prog 5 #[.slice la ln lc, .slice ea en ec] w fun e w' => SomeB e ∧ w' = w := by
  unfold maxLen at *
  go_enter Try.func5, Try.ntmps5
  by_cases k1 : ln ≤ 1048576
  · go_wp2
    go_loop [5, 6] (fun z i => ∃ j t : Nat, j ≤ ln ∧ t ≤ 1048576 ∧ i = .int .i64 j ∧ z = .int .i64 t) (fun _ i => ln - (intOf i).toNat)
    case atStart => exact ⟨0, ln, Nat.zero_le _, k1, rfl, by go_num⟩
    case round =>
      obtain ⟨j, t, hj, ht, rfl, rfl⟩ := hrel
      by_cases hlt : j < ln
      · obtain ⟨b, off, rfl, hb, hc⟩ := hl.head j hlt
        have hm := hl.len j hlt
        unfold maxLen at hm
        by_cases k2 : RL1 j ≤ 1048576
        · by_cases k3 : t + RL1 j ≤ 1048576
          · go_wp2
            go_round
            case rel => exact ⟨j + 1, t + RL1 j, by omega, k3, by go_num, by go_num⟩
            case measure => simp [intOf]; omega
          · go_wp2
            go_ret
            exact ⟨⟨_, rfl⟩, rfl⟩
        · go_wp2
          go_ret
          exact ⟨⟨_, rfl⟩, rfl⟩
      · by_cases k2 : en ≤ 1048576
        · by_cases k3 : t + en ≤ 1048576
          · go_wp2
            go_loop [5, 7] (fun z i => ∃ j t : Nat, j ≤ en ∧ t ≤ 1048576 ∧ i = .int .i64 j ∧ z = .int .i64 t) (fun _ i => en - (intOf i).toNat)
            case atStart => exact ⟨0, t + en, Nat.zero_le _, k3, rfl, by go_num⟩
            case round =>
              obtain ⟨j', t', hj', ht', rfl, rfl⟩ := hrel
              by_cases hlt' : j' < en
              · obtain ⟨b, off, rfl, hb, hc⟩ := he.head j' hlt'
                have hm := he.len j' hlt'
                unfold maxLen at hm
                by_cases k4 : RL2 j' ≤ 1048576
                · by_cases k5 : t' + RL2 j' ≤ 1048576
                  · go_wp2
                    go_round
                    case rel => exact ⟨j' + 1, t' + RL2 j', by omega, k5, by go_num, by go_num⟩
                    case measure => simp [intOf]; omega
                  · go_wp2
                    go_ret
                    exact ⟨⟨_, rfl⟩, rfl⟩
                · go_wp2
                  go_ret
                  exact ⟨⟨_, rfl⟩, rfl⟩
              · go_wp2
                go_ret
                exact ⟨⟨_, rfl⟩, rfl⟩
          · go_wp2
            go_ret
            exact ⟨⟨_, rfl⟩, rfl⟩
        · go_wp2
          go_ret
          exact ⟨⟨_, rfl⟩, rfl⟩
  · go_wp2
    go_ret
    exact ⟨⟨_, rfl⟩, rfl⟩

def WithinPost (ln en : Nat) (RL1 RL2 : Nat → Nat) (e : Ending) : Prop := e = .returned (.bool false) ∨ (e = .returned (.bool true) ∧ ln ≤ 65536 ∧ en ≤ 65536 ∧ (∀ i, i < ln → RL1 i ≤ 131072) ∧ ∀ i, i < en → RL2 i ≤ 131072)
set_option maxHeartbeats 1000000 in
theorem within6 (la ea : Option Addr) (ln lc en ec : Nat) (ra1 ra2 : Nat → Option Addr) (RL1 rc1 RL2 rc2 : Nat → Nat) (X1 X2 : Nat → Nat → Int) (w : World) (h1 : ln ≤ maxLen) (h2 : en ≤ maxLen) (hl : TabAt w la ln ra1 RL1 rc1 X1) (he : TabAt w ea en ra2 RL2 rc2 X2) :
    Calls Try.prog 6 #[.slice la ln lc, .slice ea en ec] w fun e w' => WithinPost ln en RL1 RL2 e ∧ w' = w := by
  unfold maxLen at *
  go_enter Try.func6, Try.ntmps6
  by_cases k0 : ln ≤ 65536
  · by_cases k0' : en ≤ 65536
    · by_cases k1 : 24 * ln + 24 * en ≤ 1048576
      · go_wp2
        go_loop [5, 6] (fun z i => ∃ j t : Nat, j ≤ ln ∧ t ≤ 1048576 ∧ i = .int .i64 j ∧ z = .int .i64 t ∧ Aside (∀ i, i < j → RL1 i ≤ 131072)) (fun _ i => ln - (intOf i).toNat)
        case atStart => exact ⟨0, 24 * ln + 24 * en, Nat.zero_le _, k1, rfl, by go_num, fun i hi => by omega⟩
        case round =>
          obtain ⟨j, t, hj, ht, rfl, rfl, hA⟩ := hrel
          by_cases hlt : j < ln
          · obtain ⟨b, off, rfl, hb, hc⟩ := hl.head j hlt
            have hm := hl.len j hlt
            unfold maxLen at hm
            by_cases k2 : RL1 j ≤ 131072
            · by_cases k3 : t + 8 * RL1 j ≤ 1048576
              · go_wp2
                go_round
                case rel => exact ⟨j + 1, t + 8 * RL1 j, by omega, k3, by go_num, by go_num, fun i hi => by
                              by_cases e : i = j
                              · rw [e]; exact k2
                              · exact hA.out i (by omega)⟩
                case measure => simp [intOf]; omega
              · go_wp2
                go_ret
                exact ⟨.inl rfl, rfl⟩
            · go_wp2
              go_ret
              exact ⟨.inl rfl, rfl⟩
          · obtain rfl : j = ln := by omega
            go_wp2
            go_loop [5, 7] (fun z i => ∃ j t : Nat, j ≤ en ∧ t ≤ 1048576 ∧ i = .int .i64 j ∧ z = .int .i64 t ∧ Aside (∀ i, i < j → RL2 i ≤ 131072)) (fun _ i => en - (intOf i).toNat)
            case atStart => exact ⟨0, t, Nat.zero_le _, ht, rfl, rfl, fun i hi => by omega⟩
            case round =>
              obtain ⟨j', t', hj', ht', rfl, rfl, hA'⟩ := hrel
              by_cases hlt' : j' < en
              · obtain ⟨b, off, rfl, hb, hc⟩ := he.head j' hlt'
                have hm := he.len j' hlt'
                unfold maxLen at hm
                by_cases k4 : RL2 j' ≤ 131072
                · by_cases k5 : t' + 8 * RL2 j' ≤ 1048576
                  · go_wp2
                    go_round
                    case rel => exact ⟨j' + 1, t' + 8 * RL2 j', by omega, k5, by go_num, by go_num, fun i hi => by
                                  by_cases e : i = j'
                                  · rw [e]; exact k4
                                  · exact hA'.out i (by omega)⟩
                    case measure => simp [intOf]; omega
                  · go_wp2
                    go_ret
                    exact ⟨.inl rfl, rfl⟩
                · go_wp2
                  go_ret
                  exact ⟨.inl rfl, rfl⟩
              · obtain rfl : j' = en := by omega
                go_wp2
                go_ret
                exact ⟨.inr ⟨rfl, k0, k0', hA.out, hA'.out⟩, rfl⟩
      · go_wp2
        go_ret
        exact ⟨.inl rfl, rfl⟩
    · go_wp2
      go_ret
      exact ⟨.inl rfl, rfl⟩
  · go_wp2
    go_ret
    exact ⟨.inl rfl, rfl⟩

def FitPost (n en : Nat) (RL : Nat → Nat) (X : Nat → Nat → Int) (e : Ending) : Prop := e = .returned (.bool false) ∨ (e = .returned (.bool true) ∧ n ≤ en ∧ ∀ j, j < n → ∀ k, k < RL j → 0 ≤ X j k ∧ X j k < n)
set_option maxHeartbeats 1000000 in
theorem edges7 (ea : Option Addr) (en ec n : Nat) (ra : Nat → Option Addr) (RL rc : Nat → Nat) (X : Nat → Nat → Int) (w : World) (h1 : n ≤ 65536) (h2 : en ≤ 65536) (hR : ∀ i, i < en → RL i ≤ 131072) (he : TabAt w ea en ra RL rc X) :
    Calls Try.prog 7 #[.slice ea en ec, .int .i64 n] w fun e w' => FitPost n en RL X e ∧ w' = w := by
  go_enter Try.func7, Try.ntmps7
  by_cases k0 : n ≤ en
  · have K0 : Hid (n ≤ en) := k0
    go_wp2
    clear k0
    generalize decide (en < n) = q0
    go_loopg [5] n (fun g i wr => ∃ j : Nat, j ≤ n ∧ g = n - j ∧ i = .int .i64 j ∧ wr = w ∧ Aside (∀ j', j' < j → ∀ k, k < RL j' → 0 ≤ X j' k ∧ X j' k < n))
    case atStart => exact ⟨0, Nat.zero_le _, rfl, rfl, rfl, fun i hi => by omega⟩
    case round =>
      obtain ⟨j, hj, hgj, rfl, hw, hA⟩ := hrel
      subst wr
      have HGj : Hid (gk = n - j) := hgj
      clear hgj
      by_cases hlt : j < n
      · obtain ⟨b, off, rfl, hb, hc⟩ := he.head j (by have := K0.out; omega)
        have hm := hR j (by have := K0.out; omega)
        have hrow := he.rows j (by have := K0.out; omega)
        generalize ra j = rj at *
        go_wp2
        go_loopg [22] (RL j) (fun g i wr => ∃ k : Nat, k ≤ RL j ∧ g = RL j - k ∧ i = .int .i64 k ∧ wr = w ∧ Aside (∀ k', k' < k → 0 ≤ X j k' ∧ X j k' < n))
        case atStart => exact ⟨0, Nat.zero_le _, rfl, rfl, rfl, fun i hi => by omega⟩
        case round =>
          obtain ⟨k, hk, hgk, rfl, hw, hA2⟩ := hrel
          subst wr
          have HG : Hid (gk = RL j - k) := hgk
          clear hgk
          by_cases hlt2 : k < RL j
          · obtain ⟨b2, off2, rfl, hb2, hc2⟩ := hrow k hlt2
            by_cases k3 : 0 ≤ X j k
            · by_cases k4 : X j k < n
              · go_wp2
                go_roundg (RL j - (k + 1))
                case measure => have := HG.out; omega
                case rel => exact ⟨k + 1, by omega, rfl, by go_num, rfl, fun k' hk' => by
                              by_cases e : k' = k
                              · rw [e]; exact ⟨k3, k4⟩
                              · exact hA2.out k' (by omega)⟩
              · go_wp2
                go_ret
                exact ⟨.inl rfl, rfl⟩
            · go_wp2
              go_ret
              exact ⟨.inl rfl, rfl⟩
          · obtain rfl : k = RL j := by omega
            go_wp2
            go_roundg (n - (j + 1))
            case measure => have := HGj.out; omega
            case rel => exact ⟨j + 1, by omega, rfl, by go_num, rfl, fun j' hj' => by
                          by_cases e : j' = j
                          · rw [e]; exact hA2.out
                          · exact hA.out j' (by omega)⟩
      · obtain rfl : j = n := by omega
        go_wp2
        go_ret
        exact ⟨.inr ⟨rfl, K0.out, hA.out⟩, rfl⟩
  · go_wp2
    go_ret
    exact ⟨.inl rfl, rfl⟩
end Go.Proofs.Qxb6603820a
