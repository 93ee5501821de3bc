import Derived.Test.Qxb6602988aA6
namespace Go.Proofs.Qxb6602988a
open Go.RowKit Go.WideShapes Go.ChangeShapes
set_option linter.unusedVariables false
set_option linter.unusedSimpArgs false

theorem eq57 (x y : Verd) (w : World) : (binOp .eql 57 (.agg #[.int .u8 x.1, .int .u16 x.2]) (.agg #[.int .u8 y.1, .int .u16 y.2])).run Try.prog w = .ok (.bool (decide (x = y))) w := by
  have h1 := Try.underlying57
  have h2 := Try.underlying54
  have h3 := Try.underlying55
  have e : decide (x = y) = (x.1 == y.1 && x.2 == y.2) := by
    rw [Bool.eq_iff_iff]
    simp [Prod.ext_iff]
  rw [e]
  clear e
  go_simp
  by_cases a : x.1 = y.1 <;> by_cases b : x.2 = y.2 <;> simp [a, b]

theorem below_drewN2 {B : Nat} {a w : World} (h : Below B a w) (n : Nat) : Below B a (w.drewN n) := ⟨h.os, h.tape, h.output, h.size, h.block⟩
/-- what the model's scan answers -/
def modelR (N : Nat) (U A : Nat → Bool) (Vv : Nat → Verd) (H : Nat → Bool) (v : Verd) : Option Nat :=
  ((List.range N).find? (fun i => !U i && !H i && A i && decide (Vv i = v))).or ((List.range N).find? (fun i => !U i && !H i))

theorem range_find_some (N k : Nat) (c : Nat → Bool) (hk : k < N) (hc : c k = true) (hn : ∀ j, j < k → c j = false) : (List.range N).find? c = some k := by
  rw [List.find?_range_eq_some]
  exact ⟨hc, by simpa using hk, fun j hj => by simp [hn j hj]⟩
theorem range_find_none (N : Nat) (c : Nat → Bool) (hn : ∀ j, j < N → c j = false) : (List.range N).find? c = none := by
  rw [List.find?_eq_none]
  intro x hx
  simp at hx
  simp [hn x hx]

set_option maxHeartbeats 1000000 in
theorem model36 (N g1 g3 g4 gh : Nat) (U A H : Nat → Bool) (Vv : Nat → Verd) (v : Verd) (w : World) (hN : N ≤ 65537) (h1 : RowB w g1 4 N (fun i => .bool (U i))) (h3 : RowB w g3 4 N (fun i => .bool (A i))) (h4 : RowB w g4 57 (N * 2) (vcell Vv)) (hh : RowB w gh 4 N (fun i => .bool (H i))) :
    Calls Try.prog 36 #[.int .u32 N, .slice (some ⟨g1, 0, none⟩) N N, .slice (some ⟨g3, 0, none⟩) N N, .slice (some ⟨g4, 0, none⟩) N N, .slice (some ⟨gh, 0, none⟩) N N, .agg #[.int .u8 v.1, .int .u16 v.2]] w fun e w' =>
      e = .returned (.tuple #[.int .u32 ((modelR N U A Vv H v).getD 0 : Nat), .bool (modelR N U A Vv H v).isSome]) ∧ Below w.heap.size w w' := by
  have r1 := h1.alloc (.cells #[.int .u8 v.1, .int .u16 v.2] 57)
  have r3 := h3.alloc (.cells #[.int .u8 v.1, .int .u16 v.2] 57)
  have r4 := h4.alloc (.cells #[.int .u8 v.1, .int .u16 v.2] 57)
  have rh := hh.alloc (.cells #[.int .u8 v.1, .int .u16 v.2] 57)
  have hb := (Below.refl w.heap.size w).alloc (Nat.le_refl _) (.cells #[.int .u8 v.1, .int .u16 v.2] 57)
  have bx := (MapKept.heap_alloc w (.cells #[.int .u8 v.1, .int .u16 v.2] 57)).1
  have b0 : (w.alloc (.cells #[.int .u8 v.1, .int .u16 v.2] 57)).cell? ⟨w.heap.size, 0, none⟩ = some (.int .u8 v.1) := by unfold World.cell?; rw [bx]; rfl
  have b1 : (w.alloc (.cells #[.int .u8 v.1, .int .u16 v.2] 57)).cell? ⟨w.heap.size, 1, none⟩ = some (.int .u16 v.2) := by unfold World.cell?; rw [bx]; rfl
  clear bx h1 h3 h4 hh
  go_enter Try.func36, Try.ntmps36
  go_wp2
  generalize (w.alloc (.cells #[.int .u8 v.1, .int .u16 v.2] 57)) = W at *
  generalize w.heap.size = vb at b0 b1 ⊢
  go_loopg [14] N (fun g i wr => ∃ k nq : Nat, k ≤ N ∧ g = N - k ∧ i = .int .u32 k ∧ wr = W.drewN nq ∧ Aside (∀ j, j < k → (!U j && !H j && A j && decide (Vv j = v)) = false))
  case atStart => exact ⟨0, 0, Nat.zero_le _, rfl, rfl, rfl, fun j hj => by omega⟩
  case round =>
    obtain ⟨k, nq, hk, hg, rfl, rfl, hall⟩ := hrel
    have HG : Hid (gk = N - k) := hg
    clear hg
    by_cases hlt : k < N
    · have cU := r1.cell (i := k) hlt
      have cH := rh.cell (i := k) hlt
      have cA := r3.cell (i := k) hlt
      have c0 := r4.cell (i := k * 2) (by omega)
      have c1 := r4.cell (i := k * 2 + 1) (by omega)
      simp only [vcell, show k * 2 % 2 = 0 by omega, show k * 2 / 2 = k by omega, show ¬ ((k * 2 + 1) % 2 = 0) by omega, show (k * 2 + 1) / 2 = k by omega, if_true, if_false] at c0 c1
      have heq : ∀ n, (binOp .eql 57 (.agg #[.int .u8 (Vv k).1, .int .u16 (Vv k).2]) (.agg #[.int .u8 v.1, .int .u16 v.2])).run Try.prog (W.drewN n) = .ok (.bool (decide (Vv k = v))) (W.drewN n) := fun n => eq57 (Vv k) v _
      have HN : Hid ((!U k && !H k && A k && decide (Vv k = v)) = false → ∀ j, j < k + 1 → (!U j && !H j && A j && decide (Vv j = v)) = false) := fun hf j hj => by
        by_cases e : j = k
        · rw [e]; exact hf
        · exact hall.out j (by omega)
      cases hU : U k with
      | true =>
        rw [hU] at cU
        have HF : Hid ((!U k && !H k && A k && decide (Vv k = v)) = false) := by show _ = _; simp [hU]
        clear hU
        go_wp2
        go_quiet (fail)
        go_wp2
        go_roundg (N - (k + 1))
        case measure => have := HG.out; omega
        case rel => exact ⟨k + 1, _, by omega, rfl, by go_num, rfl, HN.out HF.out⟩
      | false =>
        rw [hU] at cU
        cases hH : H k with
        | true =>
          rw [hH] at cH
          have HF : Hid ((!U k && !H k && A k && decide (Vv k = v)) = false) := by show _ = _; simp [hH]
          clear hU hH
          go_wp2
          go_quiet (fail)
          go_wp2
          go_roundg (N - (k + 1))
          case measure => have := HG.out; omega
          case rel => exact ⟨k + 1, _, by omega, rfl, by go_num, rfl, HN.out HF.out⟩
        | false =>
          rw [hH] at cH
          cases hA : A k with
          | false =>
            rw [hA] at cA
            have HF : Hid ((!U k && !H k && A k && decide (Vv k = v)) = false) := by show _ = _; simp [hA]
            clear hU hH hA
            go_wp2
            go_quiet (fail)
            go_wp2
            go_roundg (N - (k + 1))
            case measure => have := HG.out; omega
            case rel => exact ⟨k + 1, _, by omega, rfl, by go_num, rfl, HN.out HF.out⟩
          | true =>
            rw [hA] at cA
            by_cases hv : Vv k = v
            · have HR : Hid (modelR N U A Vv H v = some k) := by
                show _ = _
                unfold modelR
                rw [range_find_some N k _ hlt (by simp [hU, hH, hA, hv]) hall.out]
                rfl
              rw [hv] at c0 c1
              clear hU hH hA hv HN hall heq
              go_wp2
              go_quiet (fail)
              go_wp2
              go_ret2
              rw [HR.out]
              exact ⟨rfl, below_drewN2 (below_drewN2 hb _) _⟩
            · have HF : Hid ((!U k && !H k && A k && decide (Vv k = v)) = false) := by show _ = _; simp [hv]
              by_cases e1 : (Vv k).1 = v.1
              · have e2 : ¬ (Vv k).2 = v.2 := fun e2 => hv (Prod.ext e1 e2)
                rw [e1] at c0
                clear hU hH hA hv heq e1
                go_wp2
                go_quiet (fail)
                go_wp2
                go_roundg (N - (k + 1))
                case measure => have := HG.out; omega
                case rel => exact ⟨k + 1, _, by omega, rfl, by go_num, rfl, HN.out HF.out⟩
              · clear hU hH hA hv heq
                go_wp2
                go_quiet (fail)
                go_wp2
                go_roundg (N - (k + 1))
                case measure => have := HG.out; omega
                case rel => exact ⟨k + 1, _, by omega, rfl, by go_num, rfl, HN.out HF.out⟩
    · have HM : Hid (modelR N U A Vv H v = (List.range N).find? (fun i => !U i && !H i)) := by
        show _ = _
        unfold modelR
        rw [range_find_none N _ (fun j hj => hall.out j (by omega))]
        rfl
      clear hall HG
      go_wp2
      have s1 := r1.drewN nq
      have sh := rh.drewN nq
      have sb := below_drewN2 hb nq
      clear r1 r3 r4 rh b0 b1 hb
      generalize W.drewN nq = W2 at *
      go_loop [15] (fun i => ∃ k2 : Nat, k2 ≤ N ∧ i = .int .u32 k2 ∧ Aside (∀ j, j < k2 → (!U j && !H j) = false)) (fun i => N - (intOf i).toNat)
      case atStart => exact ⟨0, Nat.zero_le _, rfl, fun j hj => by omega⟩
      case round =>
        obtain ⟨k2, hk2, rfl, hall2⟩ := hrel
        by_cases hlt2 : k2 < N
        · have cU := s1.cell (i := k2) hlt2
          have cH := sh.cell (i := k2) hlt2
          have HN : Hid ((!U k2 && !H k2) = false → ∀ j, j < k2 + 1 → (!U j && !H j) = false) := fun hf j hj => by
            by_cases e : j = k2
            · rw [e]; exact hf
            · exact hall2.out j (by omega)
          cases hU : U k2 with
          | true =>
            rw [hU] at cU
            have HF : Hid ((!U k2 && !H k2) = false) := by show _ = _; simp [hU]
            clear hU
            go_wp2
            go_round
            case rel => exact ⟨k2 + 1, by omega, by go_num, HN.out HF.out⟩
            case measure => simp [intOf]; omega
          | false =>
            rw [hU] at cU
            cases hH : H k2 with
            | true =>
              rw [hH] at cH
              have HF : Hid ((!U k2 && !H k2) = false) := by show _ = _; simp [hH]
              clear hU hH
              go_wp2
              go_round
              case rel => exact ⟨k2 + 1, by omega, by go_num, HN.out HF.out⟩
              case measure => simp [intOf]; omega
            | false =>
              rw [hH] at cH
              have HR : Hid (modelR N U A Vv H v = some k2) := by
                show _ = _
                rw [HM.out, range_find_some N k2 _ hlt2 (by simp [hU, hH]) hall2.out]
              clear hU hH HN hall2
              go_wp2
              go_ret2
              rw [HR.out]
              exact ⟨rfl, sb⟩
        · have HR : Hid (modelR N U A Vv H v = none) := by
            show _ = _
            rw [HM.out, range_find_none N _ (fun j hj => hall2.out j (by omega))]
          clear hall2
          go_wp2
          go_ret2
          rw [HR.out]
          exact ⟨rfl, sb⟩

theorem freeK_filter (Lu : SL) (N : Nat) : freeK Lu N = (List.range N).filter (fun i => !hasA Lu i) := by
  induction N with
  | zero => rfl
  | succ k ih =>
    rw [List.range_succ, List.filter_append, ← ih]
    have e : freeK Lu (k + 1) = if hasA Lu k then freeK Lu k else freeK Lu k ++ [k] := rfl
    rw [e]
    cases h : hasA Lu k <;> simp [h]
theorem heldK_filter (Lu La : SL) (v : Verd) (N : Nat) : heldK Lu La v N = (List.range N).filter (fun i => !hasA Lu i && hasA La i && decide (valA La i = v)) := by
  induction N with
  | zero => rfl
  | succ k ih =>
    rw [List.range_succ, List.filter_append, ← ih]
    have e : heldK Lu La v (k + 1) = if hasA Lu k then heldK Lu La v k else if hasA La k then (if v = valA La k then heldK Lu La v k ++ [k] else heldK Lu La v k) else heldK Lu La v k := rfl
    rw [e]
    by_cases h3 : v = valA La k
    · cases h1 : hasA Lu k <;> cases h2 : hasA La k <;> simp [h1, h2, h3]
    · have h3' : ¬ valA La k = v := fun h => h3 h.symm
      cases h1 : hasA Lu k <;> cases h2 : hasA La k <;> simp [h1, h2, h3, h3']
theorem find_congr {α : Type} (l : List α) (p q : α → Bool) (h : ∀ x, p x = q x) : l.find? p = l.find? q := by
  have : p = q := funext h
  rw [this]
/-- take answers what the model's scan answers -/
theorem take_model (Lu La : SL) (N : Nat) (tk : Nat → Bool) (v : Verd) : takeR (grpK Lu La N) (freeK Lu N) tk v = modelR N (hasA Lu) (hasA La) (valA La) tk v := by
  unfold takeR modelR
  rw [grp_held, heldK_filter, freeK_filter, List.find?_filter, List.find?_filter]
  congr 1
  · refine find_congr _ _ _ (fun x => ?_)
    cases hasA Lu x <;> cases hasA La x <;> cases tk x <;> by_cases h : valA La x = v <;> simp [h]
  · refine find_congr _ _ _ (fun x => ?_)
    cases hasA Lu x <;> cases tk x <;> simp
end Go.Proofs.Qxb6602988a
