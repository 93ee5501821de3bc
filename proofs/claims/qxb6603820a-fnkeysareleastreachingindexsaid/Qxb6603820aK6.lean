import Derived.Test.Qxb6603820aK5
namespace Go.Proofs.Qxb6603820a
open Go.RowKit Go.WideShapes
set_option linter.unusedVariables false
set_option linter.unusedSimpArgs false

def KeysPost (w : World) (n : Nat) (RL : Nat → Nat) (X : Nat → Nat → Int) (e : Ending) (w' : World) : Prop :=
  ∃ (g : Nat) (K : Nat → Int), e = .returned (.slice (some ⟨g, 0, none⟩) n n) ∧ RowB w' g 3 n (fun v => .int .i64 (K v)) ∧ (∀ v, v < n → Least (Edge n RL X) v (K v)) ∧ w.heap.size ≤ g ∧ Below w.heap.size w w'
theorem keys9 (la ea : Option Addr) (n lc en ec : Nat) (ra : Nat → Option Addr) (RL rc : Nat → Nat) (X : Nat → Nat → Int) (w : World) (hn : n ≤ 65536) (hne : n ≤ en) (hR : ∀ i, i < en → RL i ≤ 131072) (he : TabAt w ea en ra RL rc X) (hfit : ∀ j, j < n → ∀ k, k < RL j → 0 ≤ X j k ∧ X j k < n) :
    Calls Try.prog 9 #[.slice la n lc, .slice ea en ec] w fun e w' => KeysPost w n RL X e w' := by
  go_enter Try.func9, Try.ntmps9
  go_wp2_with fail
  refine (keys13 la ea n lc en ec ra RL rc X _ hn hne hR he hfit).mono ?_
  rintro e w1 ⟨g, K, rfl, h1, h2, h3, h4⟩
  go_wp2_with fail
  go_ret
  exact ⟨g, K, rfl, h1, h2, h3, h4⟩
theorem Try.info4 : (Try.prog.info? 4).map (fun i => (i.zero, i.size, i.bytes)) = some (some (.bool false), 1, 1) := by kernel_rfl
theorem make30 (n : Nat) (hn : n ≤ 1048576) (w : World) : (Instr.makeSlice 30 (.int .i64 n) (.int .i64 n)).run Try.prog w = .ok (.slice (some ⟨w.heap.size, 0, none⟩) n n) (w.alloc (.cells (rowOf n (fun _ => .bool false)) 4)) := by
  obtain ⟨i, hi, hz, h1, h2⟩ := info_parts Try.info4
  have := make_row w 30 4 i _ 1 Try.underlying30 hi hz h1 .i64 .i64 n (by rw [h2]; omega) (by unfold maxLen; omega) (fun _ => .bool false) (fun j hj => by simp [Value.cells, Nat.mod_one])
  rw [Nat.mul_one] at this
  exact this

set_option maxRecDepth 8000 in
set_option maxHeartbeats 4000000 in
theorem walk4 (la ea : Option Addr) (n lc en ec : Nat) (ra1 ra2 : Nat → Option Addr) (RL1 rc1 RL rc2 : Nat → Nat) (X1 X : Nat → Nat → Int) (w : World) (h1 : n ≤ maxLen) (h2 : en ≤ maxLen) (hl : TabAt w la n ra1 RL1 rc1 X1) (he : TabAt w ea en ra2 RL rc2 X) :
    Calls Try.prog 4 #[.slice la n lc, .slice ea en ec] w fun e w' => e = .returned (.bool true) ∧ Below w.heap.size w w' := by
  go_enter Try.func4, Try.ntmps4
  go_wp2_with fail
  refine (bytes12 la ea n lc en ec ra1 ra2 RL1 rc1 RL rc2 X1 X _ h1 h2 hl he).mono ?_
  rintro e w1 ⟨⟨t, rfl⟩, hE⟩
  subst w1
  cases t
  · go_wp2_with fail
    go_ret
    exact ⟨rfl, Below.refl _ _⟩
  go_wp2_with fail
  refine (within6 la ea n lc en ec ra1 ra2 RL1 rc1 RL rc2 X1 X _ h1 h2 hl he).mono ?_
  rintro e w1 ⟨hw, hE⟩
  subst w1
  rcases hw with rfl | ⟨rfl, hn, hen, hR1, hR2⟩
  · go_wp2_with fail
    go_ret
    exact ⟨rfl, Below.refl _ _⟩
  clear h1 h2
  go_wp2_with fail
  refine (edges7 ea en ec n ra2 RL rc2 X _ hn hen hR2 he).mono ?_
  rintro e w1 ⟨hw, hE⟩
  subst w1
  rcases hw with rfl | ⟨rfl, hne, hfit⟩
  · go_wp2_with fail
    go_ret
    exact ⟨rfl, Below.refl _ _⟩
  have HR : Hid (∀ i, i < en → RL i ≤ 131072) := hR2
  have HR1 : Hid (∀ i, i < n → RL1 i ≤ 131072) := hR1
  have HF : Hid (∀ j, j < n → ∀ k, k < RL j → 0 ≤ X j k ∧ X j k < n) := hfit
  have HNE : Hid (n ≤ en) := hne
  clear hR2 hR1 hfit hne
  go_wp2_with fail
  refine (clone8 la n lc ra1 RL1 rc1 X1 _ hn HR1.out hl).mono ?_
  rintro e w1 ⟨la', lc', ra1', rc1', rfl, hl1, hb1⟩
  go_wp2_with fail
  refine (clone8 ea en ec ra2 RL rc2 X _ hen HR.out (he.below hb1 (Nat.le_refl _))).mono ?_
  rintro e w2 ⟨ea', ec', ra2', rc2', rfl, he2, hb2⟩
  have hB2 := hb1.trans (hb2.mono hb1.size)
  clear hl1 hb1 hb2 hl he
  go_wp2_with fail
  refine (keys9 la' ea' n lc' en ec' ra2' RL rc2' X _ hn HNE.out HR.out he2 HF.out).mono ?_
  rintro e w3 ⟨kg, K, rfl, hK, hLe, hkg, hb3⟩
  have he3 := he2.below hb3 (Nat.le_refl _)
  have hB3 := hB2.trans (hb3.mono hB2.size)
  have HL : Hid (∀ v, v < n → Least (Edge n RL X) v (K v)) := hLe
  clear he2 hB2 hb3 hLe hkg
  have hmk := make30 n (by omega)
  go_wp2_with fail
  clear hmk
  have hrow0 := rowB_new w3 4 n (fun _ => .bool false)
  have hB0 : Below w3.heap.size w3 (w3.alloc (.cells (rowOf n (fun _ => .bool false)) 4)) := (Below.refl _ _).alloc (Nat.le_refl _) _
  generalize (w3.alloc (.cells (rowOf n (fun _ => .bool false)) 4)) = W0 at *
  go_loopg [8] n (fun g iv wr => ∃ (j : Nat) (H : Nat → Bool), j ≤ n ∧ g = n - j ∧ iv = .int .i64 j ∧ RowB wr w3.heap.size 4 n (fun v => .bool (H v)) ∧ Below w3.heap.size w3 wr ∧ Aside (∀ u, u < j → ∀ k, k < RL u → X u k ≠ u → H (X u k).toNat = true))
  case atStart => exact ⟨0, fun _ => false, Nat.zero_le _, rfl, rfl, hrow0, hB0, fun u hu => by omega⟩
  case round =>
    clear hrow0 hB0
    obtain ⟨j, H, hj, hgj, rfl, hrow, hB, hA⟩ := hrel
    have HGj : Hid (gk = n - j) := hgj
    clear hgj
    by_cases hlt : j < n
    · obtain ⟨b, off, rfl, hb, hc⟩ := he3.head j (by have := HNE.out; omega)
      have c2 := (hB.cell (p := ⟨b, off + j, none⟩) hb).trans hc
      have hrw := he3.rows j (by have := HNE.out; omega)
      have hrl := HR.out j (by have := HNE.out; omega)
      have hjen : j < en := by have := HNE.out; omega
      generalize ra2' j = rj at hrw c2
      clear hc
      go_wp2_with fail
      clear c2
      go_loopg [53] (RL j) (fun g iv wx => ∃ (t : Nat) (H : Nat → Bool), t ≤ RL j ∧ g = RL j - t ∧ iv = .int .i64 t ∧ RowB wx w3.heap.size 4 n (fun v => .bool (H v)) ∧ Below w3.heap.size w3 wx ∧ Aside ((∀ u, u < j → ∀ k, k < RL u → X u k ≠ u → H (X u k).toNat = true) ∧ ∀ k, k < t → X j k ≠ j → H (X j k).toNat = true))
      case atStart => exact ⟨0, H, Nat.zero_le _, rfl, rfl, hrow, hB, hA.out, fun k hk => by omega⟩
      case round =>
        clear hrow hB hA
        obtain ⟨t, H, ht, hgt, rfl, hrow, hB, hA⟩ := hrel
        have HT : Hid (gk = RL j - t) := hgt
        clear hgt
        by_cases hlt2 : t < RL j
        · obtain ⟨b2, off2, rfl, hb2, hc2⟩ := hrw t hlt2
          have d0 := (hB.cell (p := ⟨b2, off2 + t, none⟩) hb2).trans hc2
          obtain ⟨e, he1, he2⟩ : ∃ e : Nat, X j t = e ∧ e < n := by
            have := HF.out j hlt t hlt2
            exact ⟨(X j t).toNat, by omega, by omega⟩
          rw [he1] at d0
          have HE1 : Hid (X j t = e) := he1
          clear he1 hc2
          by_cases hej : e = j
          · subst hej
            go_wp2_with fail
            go_roundg (RL e - (t + 1))
            case measure => have := HT.out; omega
            case rel =>
              refine ⟨t + 1, H, by omega, rfl, by go_num, hrow, hB, hA.out.1, fun k hk hne => ?_⟩
              by_cases e' : k = t
              · rw [e'] at hne; exact absurd HE1.out hne
              · exact hA.out.2 k (by omega) hne
          · have d1 := hrow.cell (i := e) he2
            have f1 := hrow.frozen e
            go_wp2_with fail
            go_roundg (RL j - (t + 1))
            case measure => have := HT.out; omega
            case rel =>
              have key : ∀ x, (fun v => decide (v = e) || H v) x = true ↔ (x = e ∨ H x = true) := fun x => by simp
              refine ⟨t + 1, fun v => decide (v = e) || H v, by omega, rfl, by go_num, (hrow.setCell (i := e) _).congr (fun v hv => ?_), hB.setCell (Nat.le_refl _) _, fun u hu k hk hne => ?_, fun k hk hne => ?_⟩
              · by_cases e' : v = e <;> simp [e']
              · exact (key _).2 (.inr (hA.out.1 u hu k hk hne))
              · by_cases e' : k = t
                · exact (key _).2 (.inl (by rw [e', HE1.out]; simp))
                · exact (key _).2 (.inr (hA.out.2 k (by omega) hne))
        · obtain rfl : t = RL j := by omega
          go_wp2_with fail
          go_roundg (n - (j + 1))
          case measure => have := HGj.out; omega
          case rel => exact ⟨j + 1, H, by omega, rfl, by go_num, hrow, hB, fun u hu => by
                        by_cases e : u = j
                        · rw [e]; exact hA.out.2
                        · exact hA.out.1 u (by omega)⟩
    · obtain rfl : j = n := by omega
      have hK2 := hK.below hB hK.lt
      have he4 := he3.below hB (Nat.le_refl _)
      have hB4 := hB3.trans (hB.mono hB3.size)
      clear hB hB3 hK he3 HGj hlt
      go_wp2_with fail
      generalize wr = W4 at *
      have hIn : Hid (∀ v, v < j → H v = false → ∀ u, Edge j RL X u v → u = v) := fun v hv hf u ⟨h1, k, h2, h3⟩ => by
        by_cases e : X u k = u
        · omega
        · have := hA.out u h1 k h2 e
          rw [h3] at this
          simp at this
          rw [hf] at this
          cases this
      go_loopg [11] j (fun g iv wx => ∃ v : Nat, v ≤ j ∧ g = j - v ∧ iv = .int .i64 v ∧ wx = W4)
      case atStart => exact ⟨0, Nat.zero_le _, rfl, rfl, rfl⟩
      case round =>
        obtain ⟨v, hv, hgv, rfl, hwx⟩ := hrel
        subst wr
        have HV : Hid (gk = j - v) := hgv
        clear hgv
        by_cases hlt : v < j
        · have hLv := HL.out v hlt
          obtain ⟨hk0, hkv⟩ := hLv.le
          obtain ⟨m, hm⟩ : ∃ m : Nat, K v = m := ⟨(K v).toNat, by omega⟩
          have hmj : m < j := by omega
          have hKm : K m = K v := hLv.root (by rw [hm]; exact HL.out m hmj)
          have c1 := hK2.cell (i := v) hlt
          have c2 := hK2.cell (i := m) hmj
          rw [hKm, hm] at c2
          rw [hm] at c1
          have c3 := hrow.cell (i := v) hlt
          have hmv : m ≤ v := by omega
          cases hH : H v with
          | true =>
            rw [hH] at c3
            clear hLv hk0 hkv hm hKm hH
            go_wp2_with fail
            go_roundg (j - (v + 1))
            case measure => have := HV.out; omega
            case rel => exact ⟨v + 1, by omega, rfl, by go_num, rfl⟩
          | false =>
            rw [hH] at c3
            have hmv2 : K v = v := hLv.alone (hIn.out v hlt hH)
            obtain rfl : m = v := by omega
            clear hLv hk0 hkv hm hKm hH hmv2
            go_wp2_with fail
            go_roundg (j - (m + 1))
            case measure => have := HV.out; omega
            case rel => exact ⟨m + 1, by omega, rfl, by go_num, rfl⟩
        · go_wp2_with fail
          clear HV hlt
          go_loopg [13] j (fun g iv wx => ∃ u : Nat, u ≤ j ∧ g = j - u ∧ iv = .int .i64 u ∧ Below W4.heap.size W4 wx)
          case atStart => exact ⟨0, Nat.zero_le _, rfl, rfl, Below.refl _ _⟩
          case round =>
            obtain ⟨u, hu, hgu, rfl, hBx⟩ := hrel
            have HU : Hid (gk = j - u) := hgu
            clear hgu
            by_cases hlt : u < j
            · obtain ⟨b, off, rfl, hb, hc⟩ := he4.head u (by have := HNE.out; omega)
              have c2 := (hBx.cell (p := ⟨b, off + u, none⟩) hb).trans hc
              have hrw := he4.rows u (by have := HNE.out; omega)
              have hrl := HR.out u (by have := HNE.out; omega)
              have hjen : u < en := by have := HNE.out; omega
              generalize ra2' u = rj at hrw c2
              clear hc
              go_wp2_with fail
              clear c2
              go_loopg [106] (RL u) (fun g iv wy => ∃ t : Nat, t ≤ RL u ∧ g = RL u - t ∧ iv = .int .i64 t ∧ Below W4.heap.size W4 wy)
              case atStart => exact ⟨0, Nat.zero_le _, rfl, rfl, hBx⟩
              case round =>
                clear hBx
                obtain ⟨t, ht, hgt, rfl, hBx⟩ := hrel
                have HT : Hid (gk = RL u - t) := hgt
                clear hgt
                by_cases hlt2 : t < RL u
                · obtain ⟨b2, off2, rfl, hb2, hc2⟩ := hrw t hlt2
                  have d0 := (hBx.cell (p := ⟨b2, off2 + t, none⟩) hb2).trans hc2
                  obtain ⟨e, he1, he2⟩ : ∃ e : Nat, X u t = e ∧ e < j := by
                    have := HF.out u hlt t hlt2
                    exact ⟨(X u t).toNat, by omega, by omega⟩
                  rw [he1] at d0
                  have hle : ¬ K u < K e := by
                    have := (HL.out e he2).edge (HL.out u hlt) ⟨hlt, t, hlt2, he1⟩
                    omega
                  have hK3 := hK2.below hBx hK2.lt
                  have d1 := hK3.cell (i := e) he2
                  have d2 := hK3.cell (i := u) hlt
                  clear he1 hc2 hK3
                  go_wp2_with fail
                  go_quiet (fail)
                  go_wp2_with fail
                  go_roundg (RL u - (t + 1))
                  case measure => have := HT.out; omega
                  case rel => exact ⟨t + 1, by omega, rfl, by go_num, Below.drewN' hBx _⟩
                · go_wp2_with fail
                  go_roundg (j - (u + 1))
                  case measure => have := HU.out; omega
                  case rel => exact ⟨u + 1, by omega, rfl, by go_num, hBx⟩
            · go_wp2_with fail
              go_ret
              exact ⟨rfl, hB4.trans (hBx.mono hB4.size)⟩
end Go.Proofs.Qxb6603820a
