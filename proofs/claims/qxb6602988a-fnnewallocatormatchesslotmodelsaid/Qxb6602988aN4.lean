import Derived.Test.Qxb6602988aN3
namespace Go.Proofs.Qxb6602988a
open Go.RowKit Go.WideShapes Go.ChangeShapes
set_option linter.unusedVariables false
set_option linter.unusedSimpArgs false
set_option maxRecDepth 8000 in
set_option maxHeartbeats 2000000 in
theorem walk5 (hw : Int) (ua aa : Option Addr) (un uc an ac : Nat) (A : Nat → Nat) (V P : Nat → Int) (A2 : Nat → Nat) (V2 P2 : Nat → Int) (w : World)
    (h1 : un ≤ maxLen) (h2 : an ≤ maxLen) (hu : SlotsAt w ua un A V P) (ha : SlotsAt w aa an A2 V2 P2)
    (hA : ∀ i, i < un → A i < 4294967296) (hV : ∀ i, i < un → (Lit.int .u8 (V i)).wf = true) (hP : ∀ i, i < un → (Lit.int .u16 (P i)).wf = true)
    (hA2 : ∀ i, i < an → A2 i < 4294967296) (hV2 : ∀ i, i < an → (Lit.int .u8 (V2 i)).wf = true) (hP2 : ∀ i, i < an → (Lit.int .u16 (P2 i)).wf = true) :
    Calls Try.prog 5 #[.int .i64 hw, .slice ua un uc, .slice aa an ac] w fun e w' => e = .returned (.bool true) ∧ Below w.heap.size w w' := by
  have sz : Hid (∀ (W : World) (o : Obj), (W.alloc o).heap.size = W.heap.size + 1) := fun W o => by simp
  have h1' := h1
  have h2' := h2
  unfold maxLen at h1' h2'
  go_enter Try.func5, Try.ntmps5
  go_wp2_with fail
  refine (bytes16 hw ua aa un uc an ac _ h1 h2).mono ?_
  rintro e w1 ⟨⟨t, rfl⟩, hE⟩
  subst w1
  cases t
  · go_wp2_with fail
    go_ret
    exact ⟨rfl, Below.refl _ _⟩
  by_cases hg : (0 ≤ hw ∧ hw ≤ 65536) ∧ un ≤ 65536 ∧ an ≤ 32768
  · obtain ⟨⟨hw0, hw1⟩, hun, han⟩ := hg
    obtain ⟨h, rfl⟩ : ∃ h : Nat, hw = h := ⟨hw.toNat, by omega⟩
    go_wp2_with fail
    refine (fit17 h ua aa none un uc an ac 0 0 A V P _ hun han (by omega) hu).mono ?_
    rintro e w2 ⟨hfit, hE⟩
    subst w2
    rcases hfit with rfl | ⟨rfl, hA65⟩
    · go_wp2_with fail
      go_ret
      exact ⟨rfl, Below.refl _ _⟩
    go_wp2_with fail
    refine (slots19 ua un uc A V P _ hun hu hA).mono ?_
    rintro e w3 ⟨mu, rfl, hmu, hMu, hb3⟩
    go_wp2_with fail
    refine (slots19 aa an ac A2 V2 P2 _ (by omega) (ha.below hb3 (Nat.le_refl _)) hA2).mono ?_
    rintro e w4 ⟨ma, rfl, hma, hMa, hb4⟩
    have hMu4 := hMu.below hb4 hMu.lt
    have hB4 := hb3.trans (hb4.mono hb3.size)
    have hwu := slotL_wf A V P un hV hP
    have hwa := slotL_wf A2 V2 P2 an hV2 hP2
    go_wp2_with fail
    refine (new18 h mu ma _ _ _ (by omega) hMu4 hMa (fun p hp => by obtain ⟨i, hi, e⟩ := slotL_keys A V P un p hp; rw [e]; exact hA65 i hi) hwu hwa).mono ?_
    rintro e w5 ⟨p, N, mo, mh, tg, fv, Lh, rfl, hN, hal, hb5⟩
    obtain rfl := isNext_eq h N A V P un hN
    have hB5 := hB4.trans (hb5.mono hB4.size)
    have hbase := hB4.size
    have hN65 := nextM_le h A un (by omega) hA65
    clear hMu hMa hMu4 hb3 hb4 hmu hma hN
    go_wp2_with fail
    refine (next20 h ua un uc A V P _ (by omega) hun (hu.below hB5 (Nat.le_refl _)) hA65).mono ?_
    rintro e w6 ⟨rfl, hE⟩
    subst w6
    generalize nextM h A un = N at *
    go_wp2_with fail
    refine (next21 hal).mono ?_
    rintro e w6 ⟨rfl, hE⟩
    subst w6
    go_wp2_with fail
    refine (low22 hal).mono ?_
    rintro e w6 ⟨rfl, hE⟩
    subst w6
    go_wp2_with fail
    refine (taken23 hal).mono ?_
    rintro e w6 ⟨rfl, hE⟩
    subst w6
    go_wp2_with fail
    go_loop [81] (fun i => ∃ k : Nat, k ≤ N ∧ i = .int .i64 k) (fun i => N - (intOf i).toNat)
    case atStart => exact ⟨0, Nat.zero_le _, rfl⟩
    case round =>
      obtain ⟨k, hk, rfl⟩ := hrel
      by_cases hlt : k < N
      · have ct := hal.taken.cell (i := k) hlt
        go_wp2
        go_round
        case rel => exact ⟨k + 1, by omega, by go_num⟩
        case measure => simp [intOf]; omega
      obtain rfl : k = N := by omega
      go_wp2_with fail
      refine (table24 k ua un uc A V P _ hN65 hun (hu.below hB5 (Nat.le_refl _))).mono ?_
      rintro e w7 ⟨g1, g2, rfl, hg1, hg2, hg12, hrow1, hrow2, hb7⟩
      have hB7 := hB5.trans (hb7.mono hB5.size)
      have hal7 := hal.below hb7
      generalize hLu : slotL A V P un = Lu at *
      generalize hLa : slotL A2 V2 P2 an = La at *
      go_wp2_with fail
      refine (free25 hal7).mono ?_
      rintro e w8 ⟨rfl, hE⟩
      subst w8
      obtain ⟨fa, fc, rfl⟩ := ownsRow_form hal7.free
      have hfl := freeK_length Lu k
      go_wp2_with fail
      go_loop [14, 15] (fun c i => ∃ j m : Nat, j ≤ k ∧ i = .int .u32 j ∧ c = .int .i64 m ∧ m ≤ j ∧ Aside (m = (freeK Lu j).length)) (fun _ i => k - (intOf i).toNat)
      case atStart => exact ⟨0, 0, Nat.zero_le _, rfl, rfl, Nat.le_refl _, rfl⟩
      case round =>
        obtain ⟨j, m, hj, rfl, rfl, hmj, hm⟩ := hrel
        by_cases hlt2 : j < k
        · have cu := hrow1.cell (i := j) hlt2
          cases hh : hasA Lu j with
          | true =>
            rw [hh] at cu
            have HH : Hid (hasA Lu j = true) := hh
            clear hh
            go_wp2
            go_round
            case rel => exact ⟨j + 1, m, by omega, by go_num, rfl, by omega, by show _ = _; rw [hm.out]; simp [freeK, HH.out]⟩
            case measure => simp [intOf]; omega
          | false =>
            rw [hh] at cu
            have hfa := freeK_at Lu j k hlt2 hh
            have HH : Hid (hasA Lu j = false) := hh
            clear hh
            rw [← hm.out] at hfa
            obtain ⟨hml, hmv⟩ := hfa
            obtain ⟨g, rfl, hc⟩ := ownsRow_cell hal7.free hml
            rw [hmv] at hc
            clear hmv
            go_wp2
            go_round
            case rel => exact ⟨j + 1, m + 1, by omega, by go_num, by go_num, by omega, by show _ = _; rw [hm.out]; simp [freeK, HH.out]⟩
            case measure => simp [intOf]; omega
        · obtain rfl : j = k := by omega
          have hmm := hm.out
          subst hmm
          clear hm hlt hlt2 hmj
          have mk53 := make53
          go_wp2
          clear mk53
          have hMs := MapL_made w7 Try.prog 57 evV evB
          have hB8 : Below w7.heap.size w7 (w7.alloc (.map #[] 0)) := (Below.refl _ _).alloc (Nat.le_refl _) _
          generalize w7.alloc (.map #[] 0) = W8 at *
          have hkeyu : Hid (∀ i, ∃ l, keyOf Try.prog 57 (evV (valA Lu i)) = some l) := hwu
          have hkeya : Hid (∀ i, ∃ l, keyOf Try.prog 57 (evV (valA La i)) = some l) := hwa
          clear hwu hwa
          go_loopg [17, 18] j (fun g nv iv wr => ∃ (s : Nat) (Ls : List (Verd × Bool)), s ≤ j ∧ g = s ∧ iv = .int .u32 s ∧ nv = .int .i64 Ls.length ∧ Ls.length ≤ j - s ∧ MapL wr Try.prog 57 w7.heap.size evV evB Ls ∧ Below w7.heap.size w7 wr ∧ Aside ((∀ v, (aget Ls v).isSome = true ↔ SeenK Lu s j v) ∧ ∀ v u, aget Ls v = some u → u = true))
          case atStart => exact ⟨j, [], Nat.le_refl _, rfl, rfl, rfl, by simp, hMs, hB8, fun v => by simp [aget, SeenK]; omega, fun v u hu => by simp [aget] at hu⟩
          case round =>
            clear hMs hB8
            obtain ⟨s, Ls, hs, hgk, rfl, rfl, hLs, hMs, hB8, hS⟩ := hrel
            have HG : Hid (gk = s) := hgk
            clear hgk
            cases s with
            | succ s =>
              have cu := (hB8.cell (p := ⟨g1, s, none⟩) hrow1.lt).trans (hrow1.cell (i := s) (by omega))
              cases hh : hasA Lu s with
              | false =>
                rw [hh] at cu
                have HS : Hid (∀ v, SeenK Lu s j v ↔ SeenK Lu (s + 1) j v) := fun v => by rw [SeenK_down Lu s j v (by omega)]; simp [hh]
                clear hh
                go_wp2
                go_roundg s
                case measure => have := HG.out; omega
                case rel => exact ⟨s, Ls, by omega, rfl, by go_num, rfl, by omega, hMs, hB8, fun v => (hS.out.1 v).trans (HS.out v).symm, hS.out.2⟩
              | true =>
                rw [hh] at cu
                obtain ⟨l, hl⟩ := hkeyu.out s
                have c0 := (hB8.cell (p := ⟨g2, s * 2, none⟩) hrow2.lt).trans (hrow2.cell (i := s * 2) (by omega))
                have c1 := (hB8.cell (p := ⟨g2, s * 2 + 1, none⟩) hrow2.lt).trans (hrow2.cell (i := s * 2 + 1) (by omega))
                rw [vcell_even] at c0
                rw [vcell_odd] at c1
                have lk : (Instr.lookup 53 (.map (some w7.heap.size)) (.agg #[.int .u8 (valA Lu s).1, .int .u16 (valA Lu s).2]) false).run Try.prog wr = .ok (.bool ((aget Ls (valA Lu s)).getD false)) wr := hMs.lookup law57 evV_inj Try.underlying53 (zero4 _) hl false
                cases hsn : aget Ls (valA Lu s) with
                | some u =>
                  have hu1 := hS.out.2 _ _ hsn
                  subst hu1
                  rw [hsn] at lk
                  simp only [Option.getD_some] at lk
                  have HS : Hid (∀ v, SeenK Lu s j v ↔ SeenK Lu (s + 1) j v) := fun v => by
                    rw [SeenK_down Lu s j v (by omega)]
                    refine ⟨fun h => ?_, .inl⟩
                    rcases h with h | ⟨_, h⟩
                    · exact h
                    · rw [← h]; exact (hS.out.1 _).1 (by rw [hsn]; rfl)
                  clear hh hsn
                  go_wp2
                  go_roundg s
                  case measure => have := HG.out; omega
                  case rel => exact ⟨s, Ls, by omega, rfl, by go_num, rfl, by omega, hMs, hB8, fun v => (hS.out.1 v).trans (HS.out v).symm, hS.out.2⟩
                | none =>
                  rw [hsn] at lk
                  simp only [Option.getD_none] at lk
                  obtain ⟨w9, hup, hm9, ht9⟩ := hMs.update law57 evV_inj Try.underlying53 hl true
                  have hup' : (Instr.mapUpdate 53 (.map (some w7.heap.size)) (.agg #[.int .u8 (valA Lu s).1, .int .u16 (valA Lu s).2]) (.bool true)).run Try.prog wr = .ok () w9 := hup
                  have hB9 := hB8.grown ht9.grown hB8.size (fun k hk => by cases hk; exact Nat.le_refl _)
                  have hlast := ofK_last Lu s j (by omega) hh (fun h => by have := (hS.out.1 _).2 h; rw [hsn] at this; cases this)
                  have HS : Hid (∀ v, SeenK Lu s j v ↔ (SeenK Lu (s + 1) j v ∨ v = valA Lu s)) := fun v => by
                    rw [SeenK_down Lu s j v (by omega)]
                    simp only [hh, true_and]
                    constructor
                    · rintro (h | h)
                      · exact .inl h
                      · exact .inr h.symm
                    · rintro (h | h)
                      · exact .inl h
                      · exact .inr h.symm
                  have hlen : (aput Ls (valA Lu s) true).length = Ls.length + 1 := by rw [aput_length, hsn]; rfl
                  have d0 := (hB9.cell (p := ⟨g2, s * 2, none⟩) hrow2.lt).trans (hrow2.cell (i := s * 2) (by omega))
                  have d1 := (hB9.cell (p := ⟨g2, s * 2 + 1, none⟩) hrow2.lt).trans (hrow2.cell (i := s * 2 + 1) (by omega))
                  rw [vcell_even] at d0
                  rw [vcell_odd] at d1
                  have HN : Hid (aget Ls (valA Lu s) = none) := hsn
                  have HL : Hid ((aput Ls (valA Lu s) true).length = Ls.length + 1) := hlen
                  clear hh hsn hup hlen
                  go_wp2_with fail
                  refine (of26 (hal7.below hB9) (valA Lu s) (hkeyu.out s)).mono ?_
                  rintro e w10 ⟨he, hb10⟩
                  rw [hlast] at he
                  simp only [Option.getD_some, Option.isSome_some] at he
                  subst he
                  have hB10 := hB9.trans (hb10.mono hB9.size)
                  have hm10 := hm9.below hb10 hm9.lt
                  go_wp2_with fail
                  go_roundg s
                  case measure => have := HG.out; omega
                  case rel =>
                    refine ⟨s, aput Ls (valA Lu s) true, by omega, rfl, by go_num, ?_, by have := HL.out; omega, hm10, hB10, fun v => ?_, fun v u hu => ?_⟩
                    · rw [HL.out]; go_num
                    · rw [HS.out v, aget_aput]
                      by_cases e : v = valA Lu s
                      · simp [e]
                      · simp only [e, if_false, or_false]; exact hS.out.1 v
                    · rw [aget_aput] at hu
                      by_cases e : v = valA Lu s
                      · rw [if_pos e] at hu; cases hu; rfl
                      · rw [if_neg e] at hu; exact hS.out.2 v u hu
            | zero =>
              have hlen : Ls.length = (ofK Lu j).length := len_of_keys Ls (ofK Lu j) hMs.nodup (ofK_nodup Lu j) (fun v => (hS.out.1 v).trans (ofK_has Lu j v).symm)
              have hal8 := hal7.below hB8
              have hB8w := hB7.trans (hB8.mono hB7.size)
              clear hS hMs
              go_wp2_with fail
              refine (oflen27 hal8).mono ?_
              rintro e w9 ⟨rfl, hE⟩
              subst w9
              rw [← hlen]
              go_wp2_with fail
              refine (table24 j aa an ac A2 V2 P2 _ hN65 (by omega) (ha.below hB8w (Nat.le_refl _))).mono ?_
              rintro e w10 ⟨g3, g4, rfl, hg3, hg4, hg34, hrow3, hrow4, hb10⟩
              rw [hLa] at hrow3 hrow4
              have hB10 := hB8w.trans (hb10.mono hB8w.size)
              have hal10 := hal8.below hb10
              have hr1 := (hrow1.below hB8 hrow1.lt).below hb10 (Nat.lt_of_lt_of_le hrow1.lt hB8.size)
              clear hal7 hal8 hB8w hB8 hb10 hrow1 hrow2 hlen hLs hal hb7 hB7 hb5 hB5 hg1 hg2 hg3 hg4 hg12 hg34 HG
              have mk60 := make60
              go_wp2
              clear mk60
              have hH0 : HoldAt (w10.alloc (.map #[] 0)) w10.heap.size w10.heap.size (.slice none 0 0) (.slice none 0 0) [] [] (grpK Lu La 0) := ⟨MapL_made w10 Try.prog 57 evV evI, fun v => rfl, World.ownsRow_nil _ _ _ _, World.ownsRow_nil _ _ _ _, fun i v ns hi => by simp [grpK] at hi, fun i i' _ => .inl (by simp [evH, Value.ownBlock]), Nat.le_refl _⟩
              have hB11 : Below w10.heap.size w10 (w10.alloc (.map #[] 0)) := (Below.refl _ _).alloc (Nat.le_refl _) _
              generalize w10.alloc (.map #[] 0) = W11 at *
              go_loopg [25, 26, 27] j (fun g hv hs iv wr => ∃ (s : Nat) (Li : List (Verd × Nat)) (R : List (Option (Nat × Nat × Nat))), s ≤ j ∧ g = j - s ∧ iv = .int .u32 s ∧ HoldAt wr w10.heap.size w10.heap.size hv hs Li R (grpK Lu La s) ∧ Below w10.heap.size w10 wr)
              case atStart => exact ⟨0, [], [], Nat.zero_le _, rfl, rfl, hH0, hB11⟩
              case round =>
                clear hH0 hB11
                obtain ⟨s, Li, R, hs, hgk, rfl, hH, hB11⟩ := hrel
                have HG : Hid (gk = j - s) := hgk
                clear hgk
                obtain ⟨va, vc, rfl⟩ := ownsRow_form hH.hv
                obtain ⟨sa, sc, rfl⟩ := ownsRow_form hH.hs
                have hgl := grpK_len Lu La s
                by_cases hlt : s < j
                · have cu := (hB11.cell (p := ⟨g1, s, none⟩) hr1.lt).trans (hr1.cell (i := s) hlt)
                  have ca := (hB11.cell (p := ⟨g3, s, none⟩) hrow3.lt).trans (hrow3.cell (i := s) hlt)
                  cases hh : hasA Lu s with
                  | true =>
                    rw [hh] at cu
                    have HE : Hid (grpK Lu La (s + 1) = grpK Lu La s) := by show _ = _; rw [grpK_succ, hh]; rfl
                    clear hh ca
                    go_wp2
                    go_roundg (j - (s + 1))
                    case measure => have := HG.out; omega
                    case rel => exact ⟨s + 1, Li, R, by omega, rfl, by go_num, by rw [HE.out]; exact hH, hB11⟩
                  | false =>
                    rw [hh] at cu
                    cases hh2 : hasA La s with
                    | false =>
                      rw [hh2] at ca
                      have HE : Hid (grpK Lu La (s + 1) = grpK Lu La s) := by show _ = _; rw [grpK_succ, hh, hh2]; rfl
                      clear hh hh2
                      go_wp2
                      go_roundg (j - (s + 1))
                      case measure => have := HG.out; omega
                      case rel => exact ⟨s + 1, Li, R, by omega, rfl, by go_num, by rw [HE.out]; exact hH, hB11⟩
                    | true =>
                      rw [hh2] at ca
                      have HE : Hid (grpK Lu La (s + 1) = aput (grpK Lu La s) (valA La s) ((aget (grpK Lu La s) (valA La s)).getD [] ++ [s])) := by show _ = _; rw [grpK_succ, hh, hh2]; rfl
                      clear hh hh2
                      obtain ⟨l, hl⟩ := hkeya.out s
                      have c0 := (hB11.cell (p := ⟨g4, s * 2, none⟩) hrow4.lt).trans (hrow4.cell (i := s * 2) (by omega))
                      have c1 := (hB11.cell (p := ⟨g4, s * 2 + 1, none⟩) hrow4.lt).trans (hrow4.cell (i := s * 2 + 1) (by omega))
                      rw [vcell_even] at c0
                      rw [vcell_odd] at c1
                      have hH1 := hH.alloc (.cells #[.int .u8 (valA La s).1, .int .u16 (valA La s).2] 57)
                      have hB12 := hB11.alloc hB11.size (.cells #[.int .u8 (valA La s).1, .int .u16 (valA La s).2] 57)
                      have lk : (Instr.lookup 60 (.map (some w10.heap.size)) (.agg #[.int .u8 (valA La s).1, .int .u16 (valA La s).2]) true).run Try.prog (wr.alloc (.cells #[.int .u8 (valA La s).1, .int .u16 (valA La s).2] 57)) = .ok (.tuple #[.int .i64 ((aget Li (valA La s)).getD 0 : Nat), .bool (aget Li (valA La s)).isSome]) (wr.alloc (.cells #[.int .u8 (valA La s).1, .int .u16 (valA La s).2] 57)) := hH1.idx.lookup law57 evV_inj Try.underlying60 (zero3 _) hl true
                      rw [hH.same] at lk
                      cases hix : idxOf (grpK Lu La s) (valA La s) with
                      | some i =>
                        rw [hix] at lk
                        simp only [Option.getD_some, Option.isSome_some] at lk
                        obtain ⟨ns, hi⟩ := idxOf_some _ _ _ hix
                        have hil : i < (grpK Lu La s).length := (List.getElem?_eq_some_iff.1 hi).1
                        obtain ⟨hap0, hag⟩ := aput_at_idx _ _ (ns ++ [s]) ns i hi (grpK_nodup Lu La s)
                        have hnsl : ns.length ≤ s := by have := grpK_length Lu La s (valA La s); rw [hag] at this; exact this
                        have HE2 : Hid (grpK Lu La (s + 1) = (grpK Lu La s).set i (valA La s, ns ++ [s])) := by show _ = _; rw [HE.out, hag]; exact hap0
                        obtain ⟨sg, sc', hsa, _⟩ := hH1.hs.form (by omega)
                        simp only [Value.slice.injEq, true_and] at hsa
                        obtain ⟨rfl, rfl⟩ := hsa
                        obtain ⟨ra, rc, hev⟩ := ownsRow_form (hH1.rows i _ ns hi)
                        have hRl := hH1.Rlen
                        have cl : (wr.alloc (.cells #[.int .u8 (valA La s).1, .int .u16 (valA La s).2] 57)).cell? ⟨sg, i, none⟩ = some (.slice ra ns.length rc) := by
                          rw [hH1.hs.cellAt i (by omega), ← hev, List.getElem?_map]
                          simp [hRl, hil]
                        have hH2 := hH1.alloc (.cells #[.int .u32 s] 42)
                        have hcc : ((wr.alloc (.cells #[.int .u8 (valA La s).1, .int .u16 (valA La s).2] 57)).alloc (.cells #[.int .u32 s] 42)).cell? ⟨wr.heap.size + 1, 0, none⟩ = some (.int .u32 s) := by
                          have := (MapKept.heap_alloc (wr.alloc (.cells #[.int .u8 (valA La s).1, .int .u16 (valA La s).2] 57)) (.cells #[.int .u32 s] 42)).1
                          simp only [sz.out] at this
                          unfold World.cell?
                          rw [this]
                          rfl
                        have hB13 := hB12.alloc hB12.size (.cells #[.int .u32 s] 42)
                        obtain ⟨g, cap, w12, hap, cc2, fz2, hH3, hB14⟩ := hH2.push_step hB13.size hi hcc (by omega)
                        rw [hev] at hap cc2
                        have hB15 := hB13.trans hB14
                        clear hcc hH2 hH1 hH hB14 hB13 hB12 hix hap0 hag hev hRl
                        go_wp2_with (at_builtin; refine wpList_append_run hap rfl _ _ rfl rfl rfl rfl ?_)
                        go_roundg (j - (s + 1))
                        case measure => have := HG.out; omega
                        case rel => exact ⟨s + 1, Li, _, by omega, rfl, by go_num, by rw [HE2.out]; exact hH3, hB15⟩
                      | none =>
                        rw [hix] at lk
                        simp only [Option.getD_none, Option.isSome_none] at lk
                        have hagn := (idxOf_none _ _).1 hix
                        obtain ⟨w12, g, cap, w13, g', cap', w14, hup, hkp, hap1, hap2, hH2, hB13⟩ := hH1.new_step hB12.size hl hix (by omega)
                        unfold evV at hup
                        have hvb : wr.heap.size ≠ w10.heap.size := by have := hH.idx.lt; omega
                        have hbx : w12.heap[wr.heap.size]? = some (.cells #[.int .u8 (valA La s).1, .int .u16 (valA La s).2] 57) := (hkp wr.heap.size (by simp) hvb).trans (MapKept.heap_alloc _ _).1
                        have b0 : w12.cell? ⟨wr.heap.size, 0, none⟩ = some (.int .u8 (valA La s).1) := by unfold World.cell?; rw [hbx]; rfl
                        have b1 : w12.cell? ⟨wr.heap.size, 1, none⟩ = some (.int .u16 (valA La s).2) := by unfold World.cell?; rw [hbx]; rfl
                        have hRl := hH.Rlen
                        have hgi : (grpK Lu La s ++ [(valA La s, ([] : List Nat))])[(grpK Lu La s).length]? = some (valA La s, []) := by simp
                        have cl : w14.cell? ⟨g', (grpK Lu La s).length, none⟩ = some (.slice none 0 0) := by
                          have := hH2.hs
                          rw [List.length_append] at this
                          rw [this.cellAt (grpK Lu La s).length (by simp), List.getElem?_map, ← hRl]
                          simp [evH]
                        have hH3 := hH2.alloc (.cells #[.int .u32 s] 42)
                        have hcc : (w14.alloc (.cells #[.int .u32 s] 42)).cell? ⟨w14.heap.size, 0, none⟩ = some (.int .u32 s) := by
                          unfold World.cell?
                          rw [(MapKept.heap_alloc w14 (.cells #[.int .u32 s] 42)).1]
                          rfl
                        have hB14 := (hB12.trans hB13).alloc (hB12.trans hB13).size (.cells #[.int .u32 s] 42)
                        have hH3' : HoldAt (w14.alloc (.cells #[.int .u32 s] 42)) w10.heap.size w10.heap.size (.slice (some ⟨g, 0, none⟩) ((grpK Lu La s).length + 1) cap) (.slice (some ⟨g', 0, none⟩) (grpK Lu La s ++ [(valA La s, ([] : List Nat))]).length cap') (aput Li (valA La s) (grpK Lu La s).length) (R ++ [none]) (grpK Lu La s ++ [(valA La s, [])]) := by
                          rw [List.length_append]
                          exact hH3
                        obtain ⟨g'', cap'', w15, hap3, cc2, fz2, hH4, hB15⟩ := hH3'.push_step hB14.size hgi hcc (by simp)
                        have hRn : (R ++ [none]).getD (grpK Lu La s).length none = none := by rw [← hRl]; simp
                        rw [hRn] at hap3 cc2
                        have hap3' : (Builtin.append_ #[51, 51] 51 #[.slice none 0 0, .slice (some ⟨w14.heap.size, 0, none⟩) 1 1]).run Try.prog (w14.alloc (.cells #[.int .u32 s] 42)) = .ok (.slice (some ⟨g'', 0, none⟩) 1 cap'') w15 := hap3
                        have cc2' : w15.cell? ⟨g', (grpK Lu La s).length, none⟩ = some (.slice none 0 0) := cc2
                        have hB16 := hB14.trans hB15
                        rw [List.length_append] at hH4
                        have HE2 : Hid (grpK Lu La (s + 1) = (grpK Lu La s ++ [(valA La s, ([] : List Nat))]).set (grpK Lu La s).length (valA La s, [s])) := by
                          show _ = _
                          rw [HE.out, hagn, aput_of_none _ _ _ ((aget_none_iff _ _).1 hagn)]
                          simp
                        clear hcc hH3 hH3' hH2 hH1 hH hB14 hB13 hB12 hB15 hix hagn hRl hgi hbx hkp hvb hap3 cc2 hRn
                        go_wp2_with (at_builtin; first | refine wpList_append_run hap1 rfl _ _ rfl rfl rfl rfl ?_ | refine wpList_append_run hap2 rfl _ _ rfl rfl rfl rfl ?_ | refine wpList_append_run hap3' rfl _ _ rfl rfl rfl rfl ?_)
                        go_roundg (j - (s + 1))
                        case measure => have := HG.out; omega
                        case rel => exact ⟨s + 1, _, _, by omega, rfl, by go_num, by rw [HE2.out]; exact hH4, hB16⟩
                · obtain rfl : s = j := by omega
                  have hal11 := hal10.below hB11
                  have hB11w := hB10.trans (hB11.mono hB10.size)
                  clear hal10 hB10 hB11 hr1 hrow3 hrow4 HG hlt
                  have hgn := grpK_nodup Lu La s
                  have HN : Hid ((List.map Prod.fst (grpK Lu La s)).Nodup) := hgn
                  have HLn : Hid (∀ v, ((aget (grpK Lu La s) v).getD []).length ≤ s) := fun v => grpK_length Lu La s v
                  have HK : Hid (∀ (i : Nat) (v : Verd) (ns : List Nat), (grpK Lu La s)[i]? = some (v, ns) → ∃ l, keyOf Try.prog 57 (evV v) = some l) := by
                    intro i v ns hi
                    obtain ⟨l, hl⟩ := hH.idx.keys (v, i) (mem_of_aget _ (by
                      rw [hH.same]
                      cases hx : idxOf (grpK Lu La s) v with
                      | none =>
                        have := (idxOf_none _ _).1 hx
                        rw [aget_at _ _ _ hi hgn] at this
                        cases this
                      | some i' =>
                        obtain ⟨u, hu⟩ := idxOf_some _ _ _ hx
                        have hlt1 := (List.getElem?_eq_some_iff.1 hi).1
                        have hlt2 := (List.getElem?_eq_some_iff.1 hu).1
                        have e1 : (List.map Prod.fst (grpK Lu La s))[i]? = some v := by rw [List.getElem?_map, hi]; rfl
                        have e2 : (List.map Prod.fst (grpK Lu La s))[i']? = some v := by rw [List.getElem?_map, hu]; rfl
                        rw [(List.getElem?_inj (by simpa using hlt1) hgn).1 (e1.trans e2.symm)]))
                    exact ⟨l, hl⟩
                  clear hgn
                  go_wp2_with fail
                  refine (hlen28 hal11).mono ?_
                  rintro e w12 ⟨rfl, hE⟩
                  subst w12
                  go_wp2_with fail
                  generalize grpK Lu La s = grp at *
                  go_loopg [240] grp.length (fun g iv w' => ∃ i : Nat, i ≤ grp.length ∧ g = grp.length - i ∧ iv = .int .i64 i ∧ AllocAt w' w4.heap.size p s 0 mo mh tg (.slice fa (freeK Lu s).length fc) (ofK Lu s) (freeK Lu s) (fun _ => false) Lh grp ∧ HoldAt w' w10.heap.size w10.heap.size (.slice va grp.length vc) (.slice sa grp.length sc) Li R grp ∧ Below w.heap.size w w')
                  case atStart => exact ⟨0, Nat.zero_le _, rfl, rfl, hal11, hH, hB11w⟩
                  case round =>
                    clear hal11 hH hB11w
                    obtain ⟨i, hi, hgk, rfl, hal11, hH, hB11w⟩ := hrel
                    have HG : Hid (gk = grp.length - i) := hgk
                    clear hgk
                    by_cases hlt : i < grp.length
                    · obtain ⟨v, ns, hgi⟩ : ∃ v ns, grp[i]? = some (v, ns) := ⟨_, _, List.getElem?_eq_getElem hlt⟩
                      have hag := aget_at grp v ns hgi HN.out
                      have hkv := HK.out i v ns hgi
                      have hnl : ns.length ≤ s := by have := HLn.out v; rw [hag] at this; exact this
                      obtain ⟨vg, vc', hva, _⟩ := hH.hv.form (by omega)
                      simp only [Value.slice.injEq, true_and] at hva
                      obtain ⟨rfl, rfl⟩ := hva
                      obtain ⟨sg, sc', hsa, _⟩ := hH.hs.form (by omega)
                      simp only [Value.slice.injEq, true_and] at hsa
                      obtain ⟨rfl, rfl⟩ := hsa
                      obtain ⟨ra, rc, hev⟩ := ownsRow_form (hH.rows i _ ns hgi)
                      have hro := hH.rows i _ ns hgi
                      rw [hev] at hro
                      have hRl := hH.Rlen
                      obtain ⟨v0, v1⟩ := vcs_get (grp.map Prod.fst) i v (by rw [List.getElem?_map, hgi]; rfl)
                      have c0 : wr.cell? ⟨vg, i * 2, none⟩ = some (.int .u8 v.1) := (hH.hv.cellAt (i * 2) (by omega)).trans v0
                      have c1 : wr.cell? ⟨vg, i * 2 + 1, none⟩ = some (.int .u16 v.2) := (hH.hv.cellAt (i * 2 + 1) (by omega)).trans v1
                      have cl : wr.cell? ⟨sg, i, none⟩ = some (.slice ra ns.length rc) := by
                        rw [hH.hs.cellAt i (by omega), ← hev, List.getElem?_map]
                        simp [hRl, hlt]
                      obtain ⟨oa, oc, hoev, horow⟩ := hal11.row_of v
                      rw [hag] at hoev horow
                      simp only [Option.getD_some] at hoev horow
                      have lv : vg < wr.heap.size := (hH.hv.lt vg rfl).2
                      have ls : sg < wr.heap.size := (hH.hs.lt sg rfl).2
                      clear hev hag hRl v0 v1
                      go_wp2_with fail
                      go_region_held3 (fun w' => w'.cell? ⟨vg, i * 2, none⟩ = some (.int .u8 v.1) ∧ w'.cell? ⟨vg, i * 2 + 1, none⟩ = some (.int .u16 v.2) ∧ w'.cell? ⟨sg, i, none⟩ = some (.slice ra ns.length rc)) (go_keep)
                        ((first
                          | (go_at_call 30; refine (holding30 hal11.drew v hkv).mono ?_; rintro e w12 ⟨he, hb12⟩; rw [hoev] at he; subst he
                             have e0 := (hb12.cell (p := ⟨vg, i * 2, none⟩) lv).trans c0; have e1 := (hb12.cell (p := ⟨vg, i * 2 + 1, none⟩) lv).trans c1; have e2 := (hb12.cell (p := ⟨sg, i, none⟩) ls).trans cl)
                          | (go_at_call 29; refine (same29 ns oa ra oc rc _ _ w12 (ownsRow_keptT horow.drew (fun g hg _ => hb12.block g hg)) (ownsRow_keptT hro.drew (fun g hg _ => hb12.block g hg)) (by omega)).mono ?_; rintro e w13 ⟨rfl, hb13⟩
                             have lz := hb12.size
                             have i0 := (hb13.cell (p := ⟨vg, i * 2, none⟩) (Nat.lt_of_lt_of_le lv lz)).trans e0; have i1 := (hb13.cell (p := ⟨vg, i * 2 + 1, none⟩) (Nat.lt_of_lt_of_le lv lz)).trans e1; have i2 := (hb13.cell (p := ⟨sg, i, none⟩) (Nat.lt_of_lt_of_le ls lz)).trans e2)))
                      go_wp2_with fail
                      go_roundg (grp.length - (i + 1))
                      case measure => have := HG.out; omega
                      case rel => exact ⟨i + 1, by omega, rfl, by go_num, (hal11.drew.below hb12).below hb13, (HoldAt.below (HoldAt.kept (w' := wr.drew) hH (fun g hg => rfl)) hb12).below hb13, (hB11w.drew.trans (hb12.mono hB11w.size)).trans (hb13.mono (Nat.le_trans hB11w.size hb12.size))⟩
                    · go_wp2_with fail
                      go_ret
                      exact ⟨rfl, hB11w⟩
  · go_wp2_with fail
    all_goals
      go_ret
      exact ⟨rfl, Below.refl _ _⟩
end Go.Proofs.Qxb6602988a
