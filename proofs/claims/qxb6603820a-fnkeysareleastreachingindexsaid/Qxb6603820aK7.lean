import Derived.Test.Qxb6603820aK6
import Derived.Test.Qxb6603820aK7a
namespace Go.Proofs.Qxb6603820a
open Go.RowKit Go.WideShapes
set_option linter.unusedVariables false
set_option linter.unusedSimpArgs false

/-- two rows of the same ints -/
theorem same11 (n g1 g2 : Nat) (K1 K2 : Nat → Int) (w : World) (hn : n ≤ 65536) (h1 : RowB w g1 3 n (fun v => .int .i64 (K1 v))) (h2 : RowB w g2 3 n (fun v => .int .i64 (K2 v))) (he : ∀ v, v < n → K1 v = K2 v) :
    Calls Try.prog 11 #[.slice (some ⟨g1, 0, none⟩) n n, .slice (some ⟨g2, 0, none⟩) n n] w fun e w' => e = .returned (.bool true) ∧ Below w.heap.size w w' := by
  go_enter Try.func11, Try.ntmps11
  go_wp2
  go_loopg [5] n (fun g iv wx => ∃ v : Nat, v ≤ n ∧ g = n - v ∧ iv = .int .i64 v ∧ Below w.heap.size w wx)
  case atStart => exact ⟨0, Nat.zero_le _, rfl, rfl, Below.refl _ _⟩
  case round =>
    obtain ⟨v, hv, hgv, rfl, hB⟩ := hrel
    have HV : Hid (gk = n - v) := hgv
    clear hgv
    by_cases hlt : v < n
    · have c1 := (h1.below hB h1.lt).cell (i := v) hlt
      have c2 := (h2.below hB h2.lt).cell (i := v) hlt
      rw [← he v hlt] at c2
      go_wp2
      go_quiet (fail)
      go_wp2
      go_roundg (n - (v + 1))
      case measure => have := HV.out; omega
      case rel => exact ⟨v + 1, by omega, rfl, by go_num, Below.drewN' hB _⟩
    · go_wp2
      go_ret
      exact ⟨rfl, hB⟩

/-- the edges of rows below j, and of row j below t -/
def Done (n : Nat) (RL : Nat → Nat) (X : Nat → Nat → Int) (j t : Nat) (a b : Nat) : Prop := a < n ∧ ∃ k, k < RL a ∧ X a k = (b : Int) ∧ (a < j ∨ (a = j ∧ k < t))

set_option maxHeartbeats 2000000 in
theorem least10 (ea : Option Addr) (en ec n : Nat) (ra : Nat → Option Addr) (RL rc : Nat → Nat) (X : Nat → Nat → Int) (w : World) (hn : n ≤ 65536) (hne : n ≤ en) (hR : ∀ i, i < en → RL i ≤ 131072) (he : TabAt w ea en ra RL rc X) (hfit : ∀ j, j < n → ∀ k, k < RL j → 0 ≤ X j k ∧ X j k < n) :
    Calls Try.prog 10 #[.slice ea en ec, .int .i64 n] w fun e w' => KeysPost w n RL X e w' := by
  have hE : Hid (∀ u v, Edge n RL X u v → u < n ∧ v < n) := fun u v ⟨h1, k, h2, h3⟩ => ⟨h1, by have := hfit u h1 k h2; omega⟩
  have hFit : Hid (∀ j, j < n → ∀ k, k < RL j → 0 ≤ X j k ∧ X j k < n) := hfit
  have hRR : Hid (∀ i, i < n → RL i ≤ 131072) := fun i hi => hR i (by omega)
  have hNE : Hid (n ≤ en) := hne
  clear hfit hR hne
  have hmk := make26 n (by omega)
  go_enter Try.func10, Try.ntmps10
  go_wp2
  clear hmk
  have hrow0 := rowB_new w 3 n (fun _ => .int .i64 0)
  have hB0 : Below w.heap.size w (w.alloc (.cells (rowOf n (fun _ => .int .i64 0)) 3)) := (Below.refl _ _).alloc (Nat.le_refl _) _
  generalize (w.alloc (.cells (rowOf n (fun _ => .int .i64 0)) 3)) = W0 at *
  go_loopg [6] n (fun g iv wx => ∃ v : Nat, v ≤ n ∧ g = n - v ∧ iv = .int .i64 v ∧ RowB wx w.heap.size 3 n (fun i => if i < v then .int .i64 i else .int .i64 0) ∧ Below w.heap.size w wx)
  case atStart => exact ⟨0, Nat.zero_le _, rfl, rfl, hrow0.congr (fun i hi => by simp), hB0⟩
  case round =>
    clear hrow0 hB0
    obtain ⟨v, hv, hgv, rfl, hrow, hB⟩ := hrel
    have HV : Hid (gk = n - v) := hgv
    clear hgv
    by_cases hlt : v < n
    · have c1 := hrow.cell (i := v) hlt
      rw [if_neg (by omega)] at c1
      have f1 := hrow.frozen v
      go_wp2
      go_roundg (n - (v + 1))
      case measure => have := HV.out; omega
      case rel =>
        refine ⟨v + 1, by omega, rfl, by go_num, (hrow.setCell (i := v) _).congr (fun i hi => ?_), hB.setCell (Nat.le_refl _) _⟩
        by_cases e1 : i = v
        · simp [e1]
        · by_cases e2 : i < v
          · simp [e1, e2, show i < v + 1 by omega]
          · simp [e1, e2, show ¬ i < v + 1 by omega]
    · obtain rfl : v = n := by omega
      have hrow1 : RowB wr w.heap.size 3 v (fun i => .int .i64 ((fun x : Nat => (x : Int)) i)) := hrow.congr (fun i hi => by simp [hi])
      clear hrow HV hlt
      go_wp2
      go_loopg [7] (v + 1) (fun g iv wx => ∃ (r : Nat) (K : Nat → Int), r ≤ v + 1 ∧ g = v + 1 - r ∧ iv = .int .i64 r ∧ RowB wx w.heap.size 3 v (fun i => .int .i64 (K i)) ∧ Below w.heap.size w wx ∧ Aside (RS (Edge v RL X) v r K))
      case atStart => exact ⟨0, _, Nat.zero_le _, rfl, rfl, hrow1, hB, RS.zero _ _⟩
      case round =>
        clear hrow1 hB
        obtain ⟨r, K0, hr, hgr, rfl, hrow, hB, hRS⟩ := hrel
        have HGr : Hid (gk = v + 1 - r) := hgr
        clear hgr
        by_cases hlt : r ≤ v
        · go_wp2
          go_loopg [8, 9] v (fun g cv jv wx => ∃ (j : Nat) (K : Nat → Int) (ch : Bool), j ≤ v ∧ g = v - j ∧ jv = .int .i64 j ∧ cv = .bool ch ∧ RowB wx w.heap.size 3 v (fun i => .int .i64 (K i)) ∧ Below w.heap.size w wx ∧ Aside (RD (Edge v RL X) v K0 K ch (Done v RL X j 0)))
          case atStart => exact ⟨0, K0, false, Nat.zero_le _, rfl, rfl, rfl, hrow, hB, (RD.start hRS.out.1).mono (fun a b ⟨_, k, _, _, h⟩ => by omega)⟩
          case round =>
            clear hrow hB
            obtain ⟨j, K, ch, hj, hgj, rfl, rfl, hrow, hB, hRD⟩ := hrel
            have HGj : Hid (gk = v - j) := hgj
            clear hgj
            by_cases hlt2 : j < v
            · obtain ⟨b, off, rfl, hb, hc⟩ := he.head j (by have := hNE.out; omega)
              have c2 := (hB.cell (p := ⟨b, off + j, none⟩) hb).trans hc
              have hrw := he.rows j (by have := hNE.out; omega)
              have hrl := hRR.out j hlt2
              have hjen : j < en := by have := hNE.out; omega
              generalize ra j = rj at hrw c2
              clear hc
              go_wp2
              clear c2
              go_loopg [8, 38] (RL j) (fun g cv tv wy => ∃ (t : Nat) (K : Nat → Int) (ch : Bool), t ≤ RL j ∧ g = RL j - t ∧ tv = .int .i64 t ∧ cv = .bool ch ∧ RowB wy w.heap.size 3 v (fun i => .int .i64 (K i)) ∧ Below w.heap.size w wy ∧ Aside (RD (Edge v RL X) v K0 K ch (Done v RL X j t)))
              case atStart => exact ⟨0, K, ch, Nat.zero_le _, rfl, rfl, rfl, hrow, hB, hRD.out⟩
              case round =>
                clear hrow hB hRD
                obtain ⟨t, K, ch, ht, hgt, rfl, rfl, hrow, hB, hRD⟩ := hrel
                have HT : Hid (gk = RL j - t) := hgt
                clear hgt
                by_cases hlt3 : t < RL j
                · obtain ⟨b2, off2, rfl, hb2, hc2⟩ := hrw t hlt3
                  have d0 := (hB.cell (p := ⟨b2, off2 + t, none⟩) hb2).trans hc2
                  obtain ⟨e, he1, he2⟩ : ∃ e : Nat, X j t = e ∧ e < v := by
                    have := hFit.out j hlt2 t hlt3
                    exact ⟨(X j t).toNat, by omega, by omega⟩
                  rw [he1] at d0
                  have HD : Hid (∀ a b, Done v RL X j (t + 1) a b → (Done v RL X j t a b ∨ (a = j ∧ b = e))) := fun a b ⟨h1, k, h2, h3, h4⟩ => by
                    rcases h4 with h4 | ⟨rfl, h4⟩
                    · exact .inl ⟨h1, k, h2, h3, .inl h4⟩
                    · by_cases ek : k = t
                      · subst ek; exact .inr ⟨rfl, by omega⟩
                      · exact .inl ⟨h1, k, h2, h3, .inr ⟨rfl, by omega⟩⟩
                  have HEd : Hid (Edge v RL X j e) := ⟨hlt2, t, hlt3, he1⟩
                  clear he1 hc2
                  have d1 := hrow.cell (i := e) he2
                  have d2 := hrow.cell (i := j) hlt2
                  by_cases hle : K j < K e
                  · have f1 := hrow.frozen e
                    have HK : Hid (K j < K e) := hle
                    go_wp2
                    go_quiet (fail)
                    go_wp2
                    go_roundg (RL j - (t + 1))
                    case measure => have := HT.out; omega
                    case rel =>
                      refine ⟨t + 1, fun i => if i = e then K j else K i, true, by omega, rfl, by go_num, rfl, ((hrow.drewN _).setCell (i := e) _).congr (fun i hi => ?_), (Below.drewN' hB _).setCell (Nat.le_refl _) _, (hRD.out.lower hlt2 he2 HEd.out HK.out).mono HD.out⟩
                      by_cases e' : i = e <;> simp [e']
                  · have HK : Hid (¬ K j < K e) := hle
                    go_wp2
                    go_quiet (fail)
                    go_wp2
                    go_roundg (RL j - (t + 1))
                    case measure => have := HT.out; omega
                    case rel => exact ⟨t + 1, K, ch, by omega, rfl, by go_num, rfl, hrow.drewN _, Below.drewN' hB _, (hRD.out.keep hlt2 (by have := HK.out; omega)).mono HD.out⟩
                · obtain rfl : t = RL j := by omega
                  go_wp2
                  go_roundg (v - (j + 1))
                  case measure => have := HGj.out; omega
                  case rel => exact ⟨j + 1, K, ch, by omega, rfl, by go_num, rfl, hrow, hB, hRD.out.mono (fun a b ⟨h1, k, h2, h3, h4⟩ => ⟨h1, k, h2, h3, by
                                rcases h4 with h4 | ⟨_, h4⟩
                                · by_cases ea : a = j
                                  · subst ea; exact .inr ⟨rfl, h2⟩
                                  · exact .inl (by omega)
                                · omega⟩)⟩
            · obtain rfl : j = v := by omega
              have hrd := hRS.out.round hE.out (hRD.out.mono (fun a b ⟨h1, k, h2, h3⟩ => ⟨h1, k, h2, h3, .inl h1⟩))
              have HRS : Hid (RS (Edge j RL X) j (r + 1) K) := hrd.1
              cases ch with
              | false =>
                have HA : Hid (AllRight (Edge j RL X) j K) := hrd.2 rfl
                clear hrd
                go_wp2
                go_ret
                exact ⟨_, K, rfl, hrow, HA.out, Nat.le_refl _, hB⟩
              | true =>
                clear hrd
                go_wp2
                go_roundg (j + 1 - (r + 1))
                case measure => have := HGr.out; omega
                case rel => exact ⟨r + 1, K, by omega, rfl, by go_num, hrow, hB, HRS.out⟩
        · have HA : Hid (AllRight (Edge v RL X) v K0) := hRS.out.done (by omega)
          go_wp2
          go_ret
          exact ⟨_, K0, rfl, hrow, HA.out, Nat.le_refl _, hB⟩

set_option maxHeartbeats 1000000 in
theorem walk3 (la ea : Option Addr) (n lc en ec : Nat) (ra1 ra2 : Nat → Option Addr) (RL1 rc1 RL rc2 : Nat → Nat) (X1 X : Nat → Nat → Int) (w : World) (h1 : n ≤ maxLen) (h2 : en ≤ maxLen) (hl : TabAt w la n ra1 RL1 rc1 X1) (he : TabAt w ea en ra2 RL rc2 X) :
    Calls Try.prog 3 #[.slice la n lc, .slice ea en ec] w fun e w' => e = .returned (.bool true) ∧ Below w.heap.size w w' := by
  go_enter Try.func3, Try.ntmps3
  go_wp2_with fail
  refine (bytes5 la ea n lc en ec ra1 ra2 RL1 rc1 RL rc2 X1 X _ h1 h2 hl he).mono ?_
  rintro e w1 ⟨⟨t, rfl⟩, hE⟩
  subst w1
  cases t
  · go_wp2_with fail
    go_ret
    exact ⟨rfl, Below.refl _ _⟩
  go_wp2_with fail
  refine (within6 la ea n lc en ec ra1 ra2 RL1 rc1 RL rc2 X1 X _ h1 h2 hl he).mono ?_
  rintro e w1 ⟨hw, hE⟩
  subst w1
  rcases hw with rfl | ⟨rfl, hn, hen, hR1, hR2⟩
  · go_wp2_with fail
    go_ret
    exact ⟨rfl, Below.refl _ _⟩
  clear h1 h2
  by_cases h1024 : n ≤ 1024
  · go_wp2_with fail
    refine (edges7 ea en ec n ra2 RL rc2 X _ hn hen hR2 he).mono ?_
    rintro e w1 ⟨hw, hE⟩
    subst w1
    rcases hw with rfl | ⟨rfl, hne, hfit⟩
    · go_wp2_with fail
      go_ret
      exact ⟨rfl, Below.refl _ _⟩
    have HR : Hid (∀ i, i < en → RL i ≤ 131072) := hR2
    have HR1 : Hid (∀ i, i < n → RL1 i ≤ 131072) := hR1
    have HF : Hid (∀ j, j < n → ∀ k, k < RL j → 0 ≤ X j k ∧ X j k < n) := hfit
    have HNE : Hid (n ≤ en) := hne
    clear hR2 hR1 hfit hne
    go_wp2_with fail
    refine (clone8 la n lc ra1 RL1 rc1 X1 _ hn HR1.out hl).mono ?_
    rintro e w1 ⟨la', lc', ra1', rc1', rfl, hl1, hb1⟩
    go_wp2_with fail
    refine (clone8 ea en ec ra2 RL rc2 X _ hen HR.out (he.below hb1 (Nat.le_refl _))).mono ?_
    rintro e w2 ⟨ea', ec', ra2', rc2', rfl, he2, hb2⟩
    have hB2 := hb1.trans (hb2.mono hb1.size)
    clear hl1 hb1 hb2 hl he
    go_wp2_with fail
    refine (keys9 la' ea' n lc' en ec' ra2' RL rc2' X _ hn HNE.out HR.out he2 HF.out).mono ?_
    rintro e w3 ⟨kg, K, rfl, hK, hLe, hkg, hb3⟩
    have he3 := he2.below hb3 (Nat.le_refl _)
    have hB3 := hB2.trans (hb3.mono hB2.size)
    have HL : Hid (∀ v, v < n → Least (Edge n RL X) v (K v)) := hLe
    clear he2 hB2 hb3 hLe hkg
    go_wp2_with fail
    refine (least10 ea' en ec' n ra2' RL rc2' X _ hn HNE.out HR.out he3 HF.out).mono ?_
    rintro e w4 ⟨kg2, K2, rfl, hK2, hLe2, hkg2, hb4⟩
    have hK1 := hK.below hb4 hK.lt
    have hB4 := hB3.trans (hb4.mono hB3.size)
    have HS : Hid (∀ v, v < n → K v = K2 v) := fun v hv => (HL.out v hv).unique (hLe2 v hv)
    clear hLe2 hK hb4 hB3 he3
    go_wp2_with fail
    refine (same11 n kg kg2 K K2 _ hn hK1 hK2 HS.out).mono ?_
    rintro e w5 ⟨rfl, hb5⟩
    go_wp2_with fail
    go_ret
    exact ⟨rfl, hB4.trans (hb5.mono hB4.size)⟩
  · go_wp2_with fail
    go_ret
    exact ⟨rfl, Below.refl _ _⟩
end Go.Proofs.Qxb6603820a
