import Derived.Test.Qxb6602988aA7
import Derived.Test.Qxb6602988aA8
namespace Go.Proofs.Qxb6602988a
open Go.RowKit Go.WideShapes Go.ChangeShapes
set_option linter.unusedVariables false
set_option linter.unusedSimpArgs false

set_option maxHeartbeats 2000000 in
theorem walk7 (hw : Int) (ua aa sa : Option Addr) (un uc an ac sn sc : Nat) (A : Nat → Nat) (V P : Nat → Int) (A2 : Nat → Nat) (V2 P2 : Nat → Int) (SV SP : Nat → Int) (w : World)
    (h1 : un ≤ maxLen) (h2 : an ≤ maxLen) (h3 : sn ≤ maxLen) (hu : SlotsAt w ua un A V P) (ha : SlotsAt w aa an A2 V2 P2) (hs : VsAt w sa sn SV SP)
    (hA : ∀ i, i < un → A i < 4294967296) (hV : ∀ i, i < un → (Lit.int .u8 (V i)).wf = true) (hP : ∀ i, i < un → (Lit.int .u16 (P i)).wf = true)
    (hA2 : ∀ i, i < an → A2 i < 4294967296) (hV2 : ∀ i, i < an → (Lit.int .u8 (V2 i)).wf = true) (hP2 : ∀ i, i < an → (Lit.int .u16 (P2 i)).wf = true)
    (hSV : ∀ i, i < sn → (Lit.int .u8 (SV i)).wf = true) (hSP : ∀ i, i < sn → (Lit.int .u16 (SP i)).wf = true) :
    Calls Try.prog 7 #[.int .i64 hw, .slice ua un uc, .slice aa an ac, .slice sa sn sc] w fun e w' => e = .returned (.bool true) ∧ Below w.heap.size w w' := by
  have h1' := h1
  have h2' := h2
  have h3' := h3
  unfold maxLen at h1' h2' h3'
  go_enter Try.func7, Try.ntmps7
  go_wp2_with fail
  refine (bytes33 hw ua aa sa un uc an ac sn sc _ h1 h2 h3).mono ?_
  rintro e w1 ⟨⟨t, rfl⟩, hE⟩
  subst w1
  cases t
  · go_wp2_with fail
    go_ret
    exact ⟨rfl, Below.refl _ _⟩
  by_cases hg : (0 ≤ hw ∧ hw ≤ 65536) ∧ un ≤ 65536 ∧ an ≤ 32768 ∧ sn ≤ 65536
  · obtain ⟨⟨hw0, hw1⟩, hun, han, hsn⟩ := hg
    obtain ⟨h, rfl⟩ : ∃ h : Nat, hw = h := ⟨hw.toNat, by omega⟩
    go_wp2_with fail
    refine (fit17 h ua aa sa un uc an ac sn sc A V P _ hun han hsn hu).mono ?_
    rintro e w2 ⟨hfit, hE⟩
    subst w2
    rcases hfit with rfl | ⟨rfl, hA65⟩
    · go_wp2_with fail
      go_ret
      exact ⟨rfl, Below.refl _ _⟩
    go_wp2_with fail
    refine (slots19 ua un uc A V P _ hun hu hA).mono ?_
    rintro e w3 ⟨mu, rfl, hmu, hMu, hb3⟩
    go_wp2_with fail
    refine (slots19 aa an ac A2 V2 P2 _ (by omega) (ha.below hb3 (Nat.le_refl _)) hA2).mono ?_
    rintro e w4 ⟨ma, rfl, hma, hMa, hb4⟩
    have hMu4 := hMu.below hb4 hMu.lt
    have hB4 := hb3.trans (hb4.mono hb3.size)
    go_wp2_with fail
    refine (new18 h mu ma _ _ _ (by omega) hMu4 hMa (fun p hp => by obtain ⟨i, hi, e⟩ := slotL_keys A V P un p hp; rw [e]; exact hA65 i hi) (slotL_wf A V P un hV hP) (slotL_wf A2 V2 P2 an hV2 hP2)).mono ?_
    rintro e w5 ⟨p, N, mo, mh, tg, fv, Lh, rfl, hN, hal, hb5⟩
    obtain rfl := isNext_eq h N A V P un hN
    have hB5 := hB4.trans (hb5.mono hB4.size)
    have hbase := hB4.size
    have hN65 := nextM_le h A un (by omega) hA65
    clear hMu hMa hMu4 hb3 hb4 hmu hma hN
    go_wp2_with fail
    refine (next20 h ua un uc A V P _ (by omega) hun (hu.below hB5 (Nat.le_refl _)) hA65).mono ?_
    rintro e w6 ⟨rfl, hE⟩
    subst w6
    generalize nextM h A un = N at *
    go_wp2_with fail
    refine (table24 N ua un uc A V P _ hN65 hun (hu.below hB5 (Nat.le_refl _))).mono ?_
    rintro e w7 ⟨g1, g2, rfl, hg1, hg2, hg12, hrow1, _, hb7⟩
    have hB7 := hB5.trans (hb7.mono hB5.size)
    have hal7 := hal.below hb7
    go_wp2_with fail
    refine (table24 N aa an ac A2 V2 P2 _ hN65 (by omega) (ha.below hB7 (Nat.le_refl _))).mono ?_
    rintro e w8 ⟨g3, g4, rfl, hg3, hg4, hg34, hrow3, hrow4, hb8⟩
    have hB8 := hB7.trans (hb8.mono hB7.size)
    have hal8 := hal7.below hb8
    have hrow18 := hrow1.below hb8 hrow1.lt
    have hg1lt := hrow1.lt
    have htgw : tg < w5.heap.size := hal.taken.lt
    generalize hLu : slotL A V P un = Lu at *
    generalize hLa : slotL A2 V2 P2 an = La at *
    clear hLu hLa
    have hmk := make46 N (by omega)
    have hmem : Hid (∀ a ∈ freeK Lu N, a < N) := fun a ha => ((mem_freeK Lu N a).1 ha).1
    have hfl := freeK_length Lu N
    go_wp2
    have hseen := rowB_new w8 4 N (fun _ => .bool false)
    have hal9 := hal8.alloc (.cells (rowOf N (fun _ => .bool false)) 4)
    have r1 := hrow18.alloc (.cells (rowOf N (fun _ => .bool false)) 4)
    have r3 := hrow3.alloc (.cells (rowOf N (fun _ => .bool false)) 4)
    have r4 := hrow4.alloc (.cells (rowOf N (fun _ => .bool false)) 4)
    have hB9 := hB8.alloc hB8.size (.cells (rowOf N (fun _ => .bool false)) 4)
    have hlt1 := hrow18.lt
    have hlt3 := hrow3.lt
    have hlt4 := hrow4.lt
    have hs7 := hb7.size
    have hs8 := hb8.size
    clear hrow1 hrow18 hrow3 hrow4 hal7 hal8 hal hmk hb5 hB5 hB7 hb7 hb8 hB8 hB4
    generalize (w8.alloc (.cells (rowOf N (fun _ => .bool false)) 4)) = W9 at *
    generalize w8.heap.size = sg at *
    go_loopg [74] sn (fun g iv wr => ∃ (j low : Nat) (tk : Nat → Bool), j ≤ sn ∧ g = sn - j ∧ iv = .int .i64 j ∧
      AllocAt wr w4.heap.size p N low mo mh tg fv (ofK Lu N) (freeK Lu N) tk Lh (grpK Lu La N) ∧ LowOK low (freeK Lu N) tk ∧ RowB wr sg 4 N (fun i => .bool (tk i)) ∧ RowB wr g1 4 N (fun i => .bool (hasA Lu i)) ∧ RowB wr g3 4 N (fun i => .bool (hasA La i)) ∧ RowB wr g4 57 (N * 2) (vcell (valA La)) ∧ Below w.heap.size w wr)
    case atStart => exact ⟨0, 0, fun _ => false, Nat.zero_le _, rfl, rfl, hal9, ⟨Nat.zero_le _, fun i hi => by omega⟩, hseen, r1, r3, r4, hB9⟩
    case round =>
      clear hal9 hseen r1 r3 r4 hB9
      obtain ⟨j, low, tk, hj, hgk, rfl, hal, hlow, hseen, r1, r3, r4, hB⟩ := hrel
      have HG : Hid (gk = sn - j) := hgk
      clear hgk
      by_cases hlt : j < sn
      · obtain ⟨b, off, rfl, hb, c0, c1⟩ := hs j hlt
        have c0' := (hB.cell (p := ⟨b, off + j * 2, none⟩) hb).trans c0
        have c1' := (hB.cell (p := ⟨b, off + j * 2 + 1, none⟩) hb).trans c1
        have hgl : ((aget (grpK Lu La N) (SV j, SP j)).getD []).length ≤ 65537 := by have := grpK_length Lu La N (SV j, SP j); omega
        have hkey := key57 (x := (SV j, SP j)) (hSV j hlt) (hSP j hlt)
        have hgm : ∀ a ∈ (aget (grpK Lu La N) (SV j, SP j)).getD [], a < N := fun a ha => by rw [grp_held] at ha; exact ((mem_heldK Lu La _ N a).1 ha).1
        go_wp2_with fail
        refine (verd34 _ _ _).mono ?_
        rintro e w10 ⟨rfl, hb10⟩
        -- v, laid into a block of its own
        have hb11 := hb10.trans ((Below.refl _ w10).alloc hb10.size (.cells #[.int .u8 (SV j), .int .u16 (SP j)] 57))
        have bx := (MapKept.heap_alloc w10 (.cells #[.int .u8 (SV j), .int .u16 (SP j)] 57)).1
        have hal11 := hal.below hb11
        have s11 := hseen.below hb11 hseen.lt
        have r111 := r1.below hb11 r1.lt
        have r311 := r3.below hb11 r3.lt
        have r411 := r4.below hb11 r4.lt
        have hB11 := hB.trans (hb11.mono hB.size)
        have hz10 : wr.heap.size ≤ w10.heap.size := hb10.size
        go_wp2_with fail
        refine (take35 _ p N low mo mh tg fv _ _ tk Lh _ (SV j, SP j) _ hal11 hlow hmem.out hgm hN65 (by omega) hgl hkey).mono ?_
        rintro e w12 ⟨he, low', hal12, hlow12, hf12⟩
        subst e
        have hpw : p < w10.heap.size := Nat.lt_of_lt_of_le hal.blk.lt hz10
        have htw : tg < w10.heap.size := Nat.lt_of_lt_of_le hal.taken.lt hz10
        have bx12 := (hf12.block w10.heap.size (by simp) (by omega) (by omega)).trans bx
        have v0 : w12.cell? ⟨w10.heap.size, 0, none⟩ = some (.int .u8 (SV j)) := by unfold World.cell?; rw [bx12]; rfl
        have v1 : w12.cell? ⟨w10.heap.size, 1, none⟩ = some (.int .u16 (SP j)) := by unfold World.cell?; rw [bx12]; rfl
        have n1 : g1 ≠ p := fun e => (hal11.blk.ne r111 (by decide)) e.symm
        have n3 : g3 ≠ p := fun e => (hal11.blk.ne r311 (by decide)) e.symm
        have n4 : g4 ≠ p := fun e => (hal11.blk.ne r411 (by decide)) e.symm
        have ns : sg ≠ p := fun e => (hal11.blk.ne s11 (by decide)) e.symm
        have n4t : g4 ≠ tg := fun e => (hal11.taken.ne r411 (by decide)) e.symm
        have s12 := s11.of_block (hf12.block sg s11.lt ns (by omega))
        have r112 := r111.of_block (hf12.block g1 r111.lt n1 (by omega))
        have r312 := r311.of_block (hf12.block g3 r311.lt n3 (by omega))
        have r412 := r411.of_block (hf12.block g4 r411.lt n4 n4t)
        have hB12 := hB11.trans (hf12.below hB11.size (by have := hal11.big.1; omega) (by have := hal11.big.2.2.2; omega))
        go_wp2_with fail
        refine (model36 N g1 g3 g4 sg (hasA Lu) (hasA La) tk (valA La) (SV j, SP j) _ hN65 r112 r312 r412 s12).mono ?_
        rw [← take_model]
        rintro e w13 ⟨rfl, hb13⟩
        have hal13 := hal12.below hb13
        have s13 := s12.below hb13 s12.lt
        have r113 := r112.below hb13 r112.lt
        have r313 := r312.below hb13 r312.lt
        have r413 := r412.below hb13 r412.lt
        have hB13 := hB12.trans (hb13.mono hB12.size)
        have hsgw : w.heap.size ≤ sg := by have := hal11.big.2.2.2; omega
        cases hr : takeR (grpK Lu La N) (freeK Lu N) tk (SV j, SP j) with
        | none =>
          rw [hr] at hal13 hlow12
          clear hr
          go_wp2_with fail
          go_roundg (sn - (j + 1))
          case measure => have := HG.out; omega
          case rel => exact ⟨j + 1, low', tk, by omega, rfl, by go_num, hal13, hlow12, s13, r113, r313, r413, hB13⟩
        | some a =>
          rw [hr] at hal13 hlow12
          obtain ⟨hafr, hatk⟩ := takeR_some hr
          obtain ⟨hak, hau⟩ := (mem_freeK Lu N a).1 hafr
          have cs := s13.cell (i := a) hak
          have fs := s13.frozen a
          clear hr
          go_wp2_with fail
          go_roundg (sn - (j + 1))
          case measure => have := HG.out; omega
          case rel =>
            refine ⟨j + 1, low', takeT tk (some a), by omega, rfl, by go_num, hal13.setOther s13 (by decide) ns (by omega) _ _, hlow12, (s13.setCell (i := a) _).congr (fun i hi => ?_), r113.setOther _ _ (by show g1 ≠ sg; omega), r313.setOther _ _ (by show g3 ≠ sg; omega), r413.setOther _ _ (by show g4 ≠ sg; omega), hB13.setCell hsgw _⟩
            show (if i = a then Value.bool true else Value.bool (tk i)) = Value.bool (decide (i = a) || tk i)
            by_cases e : i = a <;> simp [e]
      · go_wp2
        go_ret
        exact ⟨rfl, hB⟩
  · go_wp2_with fail
    all_goals
      go_ret
      exact ⟨rfl, Below.refl _ _⟩
end Go.Proofs.Qxb6602988a
