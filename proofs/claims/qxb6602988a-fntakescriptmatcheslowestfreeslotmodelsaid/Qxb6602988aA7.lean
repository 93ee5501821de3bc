import Derived.Test.Qxb6602988aA6
namespace Go.Proofs.Qxb6602988a
open Go.RowKit Go.WideShapes Go.ChangeShapes
set_option linter.unusedVariables false
set_option linter.unusedSimpArgs false

/-- a store into a block that is not the allocator's -/
theorem AllocAt.setOther {w : World} {base p N low mo mh tg : Nat} {fv : Value} {Lof : List (Verd × Nat)} {fr : List Nat} {tk : Nat → Bool} {Lh : List (Verd × Option (Nat × Nat × Nat))} {grp : List (Verd × List Nat)}
    (h : AllocAt w base p N low mo mh tg fv Lof fr tk Lh grp) {sg : Nat} {T : TypeId} {n : Nat} {f : Nat → Value} (hs : RowB w sg T n f) (hT : T ≠ 42) (hp : sg ≠ p) (ht : sg ≠ tg) (i : Nat) (v : Value) :
    AllocAt (w.setCell ⟨sg, i, none⟩ v) base p N low mo mh tg fv Lof fr tk Lh grp := by
  have hr : ∀ {u : Value} {n : Nat} {xs : List Value}, w.ownsRow base 42 1 u n xs → (w.setCell ⟨sg, i, none⟩ v).ownsRow base 42 1 u n xs := fun {u n xs} ho =>
    ownsRow_of_block ho (fun g hg => Below.heap_setCell _ _ _ _ (fun e => by
      obtain ⟨cur, hc⟩ := ownsRow_ne ho hg
      obtain ⟨c, hb, _⟩ := hs
      rw [e, hb] at hc
      simp at hc
      exact hT hc.2))
  refine ⟨h.blk.setOther _ _ hp.symm, h.of.setCell _ _ (hs.ne_map h.of).symm, hr h.free, h.taken.setOther _ _ ht.symm, h.hold.setCell _ _ (hs.ne_map h.hold).symm, h.keys, fun v x hx => ?_, h.apart, h.fapart, h.mm, h.big⟩
  obtain ⟨ns, h1, h2⟩ := h.rows v x hx
  exact ⟨ns, h1, hr h2⟩

set_option maxHeartbeats 2000000 in
theorem walk8 (hw : Int) (ua aa sa : Option Addr) (un uc an ac sn sc : Nat) (A : Nat → Nat) (V P : Nat → Int) (A2 : Nat → Nat) (V2 P2 : Nat → Int) (SV SP : Nat → Int) (w : World)
    (h1 : un ≤ maxLen) (h2 : an ≤ maxLen) (h3 : sn ≤ maxLen) (hu : SlotsAt w ua un A V P) (ha : SlotsAt w aa an A2 V2 P2) (hs : VsAt w sa sn SV SP)
    (hA : ∀ i, i < un → A i < 4294967296) (hV : ∀ i, i < un → (Lit.int .u8 (V i)).wf = true) (hP : ∀ i, i < un → (Lit.int .u16 (P i)).wf = true)
    (hA2 : ∀ i, i < an → A2 i < 4294967296) (hV2 : ∀ i, i < an → (Lit.int .u8 (V2 i)).wf = true) (hP2 : ∀ i, i < an → (Lit.int .u16 (P2 i)).wf = true)
    (hSV : ∀ i, i < sn → (Lit.int .u8 (SV i)).wf = true) (hSP : ∀ i, i < sn → (Lit.int .u16 (SP i)).wf = true) :
    Calls Try.prog 8 #[.int .i64 hw, .slice ua un uc, .slice aa an ac, .slice sa sn sc] w fun e w' => e = .returned (.bool true) ∧ Below w.heap.size w w' := by
  have h1' := h1
  have h2' := h2
  have h3' := h3
  unfold maxLen at h1' h2' h3'
  go_enter Try.func8, Try.ntmps8
  go_wp2_with fail
  refine (bytes37 hw ua aa sa un uc an ac sn sc _ h1 h2 h3).mono ?_
  rintro e w1 ⟨⟨t, rfl⟩, hE⟩
  subst w1
  cases t
  · go_wp2_with fail
    go_ret
    exact ⟨rfl, Below.refl _ _⟩
  by_cases hg : (0 ≤ hw ∧ hw ≤ 65536) ∧ un ≤ 65536 ∧ an ≤ 32768 ∧ sn ≤ 65536
  · obtain ⟨⟨hw0, hw1⟩, hun, han, hsn⟩ := hg
    obtain ⟨h, rfl⟩ : ∃ h : Nat, hw = h := ⟨hw.toNat, by omega⟩
    go_wp2_with fail
    refine (fit17 h ua aa sa un uc an ac sn sc A V P _ hun han hsn hu).mono ?_
    rintro e w2 ⟨hfit, hE⟩
    subst w2
    rcases hfit with rfl | ⟨rfl, hA65⟩
    · go_wp2_with fail
      go_ret
      exact ⟨rfl, Below.refl _ _⟩
    go_wp2_with fail
    refine (slots19 ua un uc A V P _ hun hu hA).mono ?_
    rintro e w3 ⟨mu, rfl, hmu, hMu, hb3⟩
    go_wp2_with fail
    refine (slots19 aa an ac A2 V2 P2 _ (by omega) (ha.below hb3 (Nat.le_refl _)) hA2).mono ?_
    rintro e w4 ⟨ma, rfl, hma, hMa, hb4⟩
    have hMu4 := hMu.below hb4 hMu.lt
    have hB4 := hb3.trans (hb4.mono hb3.size)
    go_wp2_with fail
    refine (new18 h mu ma _ _ _ (by omega) hMu4 hMa (fun p hp => by obtain ⟨i, hi, e⟩ := slotL_keys A V P un p hp; rw [e]; exact hA65 i hi) (slotL_wf A V P un hV hP) (slotL_wf A2 V2 P2 an hV2 hP2)).mono ?_
    rintro e w5 ⟨p, N, mo, mh, tg, fv, Lh, rfl, hN, hal, hb5⟩
    obtain rfl := isNext_eq h N A V P un hN
    have hB5 := hB4.trans (hb5.mono hB4.size)
    have hbase := hB4.size
    have hN65 := nextM_le h A un (by omega) hA65
    clear hMu hMa hMu4 hb3 hb4 hmu hma hN
    go_wp2_with fail
    refine (next20 h ua un uc A V P _ (by omega) hun (hu.below hB5 (Nat.le_refl _)) hA65).mono ?_
    rintro e w6 ⟨rfl, hE⟩
    subst w6
    generalize nextM h A un = N at *
    go_wp2_with fail
    refine (table24 N ua un uc A V P _ hN65 hun (hu.below hB5 (Nat.le_refl _))).mono ?_
    rintro e w7 ⟨g1, g2, rfl, hg1, hg2, hg12, hrow1, _, hb7⟩
    have hB7 := hB5.trans (hb7.mono hB5.size)
    have hal7 := hal.below hb7
    generalize hLu : slotL A V P un = Lu at *
    generalize hLa : slotL A2 V2 P2 an = La at *
    clear hLu hLa
    have htgw : tg < w5.heap.size := hal.taken.lt
    have hmk := make46 N (by omega)
    have hmem : Hid (∀ a ∈ freeK Lu N, a < N) := fun a ha => ((mem_freeK Lu N a).1 ha).1
    go_wp2
    go_loop [13, 14] (fun c i => ∃ k m : Nat, k ≤ N ∧ i = .int .u32 k ∧ c = .int .i64 m ∧ m ≤ k ∧ Aside (m = (freeK Lu k).length)) (fun _ i => N - (intOf i).toNat)
    case atStart => exact ⟨0, 0, Nat.zero_le _, rfl, rfl, Nat.le_refl _, rfl⟩
    case round =>
      obtain ⟨k, m, hk, rfl, rfl, hmk', hm⟩ := hrel
      by_cases hlt : k < N
      · have cu := hrow1.cell (i := k) hlt
        cases hh : hasA Lu k with
        | true =>
          rw [hh] at cu
          have HH : Hid (hasA Lu k = true) := hh
          clear hh
          go_wp2
          go_round
          case rel => exact ⟨k + 1, m, by omega, by go_num, rfl, by omega, by show _ = _; rw [hm.out]; simp [freeK, HH.out]⟩
          case measure => simp [intOf]; omega
        | false =>
          rw [hh] at cu
          have HH : Hid (hasA Lu k = false) := hh
          clear hh
          go_wp2
          go_round
          case rel => exact ⟨k + 1, m + 1, by omega, by go_num, by go_num, by omega, by show _ = _; rw [hm.out]; simp [freeK, HH.out]⟩
          case measure => simp [intOf]; omega
      · obtain rfl : k = N := by omega
        have hmm := hm.out
        subst hmm
        have hfl := freeK_length Lu k
        go_wp2
        -- the row 'seen'
        have hseen := rowB_new w7 4 k (fun _ => .bool false)
        have hal8 := hal7.alloc (.cells (rowOf k (fun _ => .bool false)) 4)
        have hrow8 := hrow1.alloc (.cells (rowOf k (fun _ => .bool false)) 4)
        have hB8 := hB7.alloc hB7.size (.cells (rowOf k (fun _ => .bool false)) 4)
        have hsg : g1 < w7.heap.size := hrow1.lt
        clear hrow1 hal7 hmk
        have hnb : w.heap.size ≤ w4.heap.size := hbase
        generalize (w7.alloc (.cells (rowOf k (fun _ => .bool false)) 4)) = W8 at *
        have htg7 : tg < w7.heap.size := by have := hb7.size; omega
        generalize w7.heap.size = sg at *
        have hfn := freeK_nodup Lu k
        clear hlt hmk' hm hal hb5 hB5 hB7 hb7 hB4
        go_loopg [16, 78] sn (fun g hv iv wr => ∃ (j low m : Nat) (tk : Nat → Bool), j ≤ sn ∧ g = sn - j ∧ iv = .int .i64 j ∧ hv = .int .i64 m ∧ m ≤ 65537 ∧ Aside (m = ((freeK Lu k).filter tk).length) ∧
          AllocAt wr w4.heap.size p k low mo mh tg fv (ofK Lu k) (freeK Lu k) tk Lh (grpK Lu La k) ∧ LowOK low (freeK Lu k) tk ∧ RowB wr sg 4 k (fun i => .bool (tk i)) ∧ RowB wr g1 4 k (fun i => .bool (hasA Lu i)) ∧ Below w.heap.size w wr)
        case atStart => exact ⟨0, 0, 0, fun _ => false, Nat.zero_le _, rfl, rfl, rfl, by omega, by show 0 = ((freeK Lu k).filter (fun _ => false)).length; rw [List.filter_eq_nil_iff.2 (fun a _ => by simp)]; rfl, hal8, ⟨Nat.zero_le _, fun i hi => by omega⟩, hseen, hrow8, hB8⟩
        case round =>
          clear hal8 hseen hrow8 hB8
          obtain ⟨j, low, m, tk, hj, hgk, rfl, rfl, hm65, hcnt, hal, hlow, hseen, hrow, hB⟩ := hrel
          have HG : Hid (gk = sn - j) := hgk
          clear hgk
          by_cases hlt : j < sn
          · obtain ⟨b, off, rfl, hb, c0, c1⟩ := hs j hlt
            have c0' := (hB.cell (p := ⟨b, off + j * 2, none⟩) hb).trans c0
            have c1' := (hB.cell (p := ⟨b, off + j * 2 + 1, none⟩) hb).trans c1
            have hgk : ((aget (grpK Lu La k) (SV j, SP j)).getD []).length ≤ 65537 := by have := grpK_length Lu La k (SV j, SP j); omega
            have hkey := key57 (x := (SV j, SP j)) (hSV j hlt) (hSP j hlt)
            have hgm : ∀ a ∈ (aget (grpK Lu La k) (SV j, SP j)).getD [], a < k := fun a ha => by rw [grp_held] at ha; exact ((mem_heldK Lu La _ k a).1 ha).1
            go_wp2_with fail
            refine (verd34 _ _ _).mono ?_
            rintro e w9 ⟨rfl, hb9⟩
            have hal9 := hal.below hb9
            have hseen9 := hseen.below hb9 hseen.lt
            have hrow9 := hrow.below hb9 hrow.lt
            have hB9 := hB.trans (hb9.mono hB.size)
            go_wp2_with fail
            refine (take35 _ p k low mo mh tg fv _ _ tk Lh _ (SV j, SP j) _ hal9 hlow hmem.out hgm hN65 (by omega) hgk hkey).mono ?_
            rintro e w10 ⟨he, low', hal10, hlow10, hf10⟩
            subst e
            have hpg : g1 ≠ p := fun e => (hal9.blk.ne hrow9 (by decide)) e.symm
            have hps : sg ≠ p := fun e => (hal9.blk.ne hseen9 (by decide)) e.symm
            have hrow10 := hrow9.of_block (hf10.block g1 hrow9.lt hpg (by omega))
            have hseen10 := hseen9.of_block (hf10.block sg hseen9.lt hps (by omega))
            have hB10 := hB9.trans (hf10.below hB9.size (by have := hal9.big.1; omega) (by have := hal9.big.2.2.2; omega))
            cases hr : takeR (grpK Lu La k) (freeK Lu k) tk (SV j, SP j) with
            | none =>
              rw [hr] at hal10 hlow10
              have hall := takeR_none hr
              have hmf : m = (freeK Lu k).length := by rw [hcnt.out]; exact count_all _ _ hall
              subst hmf
              clear hr hall
              go_wp2_with fail
              go_roundg (sn - (j + 1))
              case measure => have := HG.out; omega
              case rel => exact ⟨j + 1, low', _, tk, by omega, rfl, by go_num, rfl, hm65, hcnt, hal10, hlow10, hseen10, hrow10, hB10⟩
            | some a =>
              rw [hr] at hal10 hlow10
              obtain ⟨hafr, hatk⟩ := takeR_some hr
              have hm' : m < (freeK Lu k).length := by rw [hcnt.out]; exact count_lt _ _ a hafr hatk
              obtain ⟨hak, hau⟩ := (mem_freeK Lu k a).1 hafr
              have cs := hseen10.cell (i := a) hak
              rw [hatk] at cs
              have cu := hrow10.cell (i := a) hak
              rw [hau] at cu
              have fs := hseen10.frozen a
              have HC : Hid (m + 1 = ((freeK Lu k).filter (takeT tk (some a))).length) := by
                show _ = _
                rw [hcnt.out]
                exact (count_put _ tk a hafr hatk hfn).symm
              clear hr
              go_wp2_with fail
              go_roundg (sn - (j + 1))
              case measure => have := HG.out; omega
              case rel =>
                refine ⟨j + 1, low', m + 1, takeT tk (some a), by omega, rfl, by go_num, by go_num, by omega, HC.out, hal10.setOther hseen10 (by decide) hps (by omega) _ _, hlow10, (hseen10.setCell (i := a) _).congr (fun i hi => ?_), hrow10.setOther _ _ (by show g1 ≠ sg; omega), hB10.setCell (by have := hal9.big.2.2.2; show w.heap.size ≤ sg; omega) _⟩
                · show (if i = a then Value.bool true else Value.bool (tk i)) = Value.bool (decide (i = a) || tk i)
                  by_cases e : i = a <;> simp [e]
          · go_wp2
            go_ret
            exact ⟨rfl, hB⟩
  · go_wp2_with fail
    all_goals
      go_ret
      exact ⟨rfl, Below.refl _ _⟩
end Go.Proofs.Qxb6602988a
