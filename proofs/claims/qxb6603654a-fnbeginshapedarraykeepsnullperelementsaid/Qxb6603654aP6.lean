import Derived.Test.Qxb6603654aP5
namespace Go.Proofs.Qxb6603654a
open Go.RowKit Go.WideShapes
set_option linter.unusedVariables false
set_option linter.unusedSimpArgs false

/-- a slice of n bytes -/
def BytesAt (w : World) (a : Option Addr) (n : Nat) (X : Nat → Int) : Prop := ∀ i, i < n → ∃ b off, a = some ⟨b, off, none⟩ ∧ b < w.heap.size ∧ w.cell? ⟨b, off + i, none⟩ = some (.int .u8 (X i))
theorem BytesAt.below {w w' : World} {a : Option Addr} {n : Nat} {X : Nat → Int} (h : BytesAt w a n X) (hb : Below w.heap.size w w') : BytesAt w' a n X := fun i hi => by
  obtain ⟨b, off, e, hlt, hc⟩ := h i hi
  exact ⟨b, off, e, Nat.lt_of_lt_of_le hlt hb.size, (hb.cell (p := ⟨b, off + i, none⟩) hlt).trans hc⟩
theorem failed15t {w : World} {B p rg : Nat} {name : ByteArray} {ov sv : Value} {out : List Int} {st : Int} {lit : ByteArray} (h : ExAt w B p rg name ov sv out st true lit) : Calls Try.prog 15 #[.pointer (some ⟨p, 0, none⟩)] w fun e w' => e = .returned (.bool true) ∧ w' = w := failed15 h
theorem failed15f {w : World} {B p rg : Nat} {name : ByteArray} {ov sv : Value} {out : List Int} {st : Int} {lit : ByteArray} (h : ExAt w B p rg name ov sv out st false lit) : Calls Try.prog 15 #[.pointer (some ⟨p, 0, none⟩)] w fun e w' => e = .returned (.bool (decide ((65536 : Int) < (out.length : Int)))) ∧ w' = w := by
  have := failed15 h
  rw [Bool.false_or, show decide (65536 < out.length) = decide ((65536 : Int) < (out.length : Int)) from by apply decide_eq_decide.2; omega] at this
  exact this
theorem nn22 (w : World) (a : Addr) (n c : Nat) : (binOp .neq 22 (.slice (some a) n c) (.slice none 0 0)).run Try.prog w = .ok (.bool true) w := by kernel_rfl
theorem nz22 (w : World) (n c : Nat) : (binOp .neq 22 (.slice none n c) (.slice none 0 0)).run Try.prog w = .ok (.bool false) w := by kernel_rfl
theorem make22 (n : Nat) (hn : n ≤ 1048576) (w : World) : (Instr.makeSlice 22 (.int .i64 n) (.int .i64 n)).run Try.prog w = .ok (.slice (some ⟨w.heap.size, 0, none⟩) n n) (w.alloc (.cells (rowOf n (fun _ => .int .u8 0)) 5)) := by
  obtain ⟨i, hi, hz, h1, h2⟩ := info_parts Try.info5
  have := make_row w 22 5 i _ 1 Try.underlying22 hi hz h1 .i64 .i64 n (by rw [h2]; omega) (by unfold maxLen; omega) (fun _ => .int .u8 0) (fun j hj => by simp [Value.cells, Nat.mod_one])
  rw [Nat.mul_one] at this
  exact this
theorem make22c (n : Nat) (hn : n ≤ 65536) (w : World) : ∃ cur, (Instr.makeSlice 22 (.int .i64 0) (.int .i64 (1 + 5 * (n : Int)))).run Try.prog w = .ok (.slice (some ⟨w.heap.size, 0, none⟩) 0 (1 + 5 * n)) (w.alloc (.cells cur 5)) ∧ cur.size = (1 + 5 * n) * 1 := by
  obtain ⟨i, hi, hz, h1, h2⟩ := info_parts Try.info5
  have hr := run_make (P := Try.prog) w 22 5 i _ Try.underlying22 hi hz .i64 .i64 0 (1 + 5 * (n : Int)) (by omega) (by omega) (by rw [h2]; omega) (by omega)
  have e : (1 + 5 * (n : Int)).toNat = 1 + 5 * n := by omega
  rw [e, h1] at hr
  exact ⟨_, hr, by simp [madeCells]⟩

set_option maxRecDepth 8000 in
set_option maxHeartbeats 4000000 in
theorem walk3 (name : ByteArray) (ca : Option Addr) (n cap : Nat) (X : Nat → Int) (w : World) (h1 : name.size ≤ maxLen) (h2 : n ≤ maxLen) (hc : BytesAt w ca n X) :
    Calls Try.prog 3 #[.string name, .slice ca n cap] w fun e w' => e = .returned (.bool true) ∧ Below w.heap.size w w' := by
  have h1' := h1
  have h2' := h2
  unfold maxLen at h1' h2'
  go_enter Try.func3, Try.ntmps3
  go_wp2_with fail
  refine (bytes5 name ca n cap _ h1 h2).mono ?_
  rintro e w1 ⟨⟨t, rfl⟩, hE⟩
  subst w1
  cases t
  · go_wp2_with fail
    go_ret
    exact ⟨rfl, Below.refl _ _⟩
  by_cases hg : name.size ≤ 65536 ∧ n ≤ 65536
  · obtain ⟨k1, k2⟩ := hg
    clear h1 h2 h1' h2'
    have nn := nn22
    have nz := nz22
    cases ca with
    | none =>
      have hn0 : n = 0 := by
        rcases Nat.eq_zero_or_pos n with h | h
        · exact h
        · obtain ⟨b, off, e, _⟩ := hc 0 h
          cases e
      have HN0 : Hid (n = 0) := hn0
      clear hn0
      have hcs := hc
      have hB := Below.refl w.heap.size w
      go_wp2_with fail
      clear nn nz hc
      refine (new6 name _).mono ?_
      rintro e w1 ⟨p, rg, rfl, hE1, hb1⟩
      go_wp2_with fail
      refine (begin7 (begin24a hE1 hb1.size)).mono ?_
      rintro e w2 ⟨rfl, ov, fg, fcap, hE2, hF2, hem2⟩
      have hb12 : Below w.heap.size w w2 := hb1.trans (hem2.below hb1.size (fun b hb => by rw [show b = p from hb]; exact hE1.bp) (fun b hb => by simp [Value.ownBlock] at hb))
      clear hE1 hb1 hem2
      obtain ⟨cur, hmk2, hcur⟩ := make22c n (by omega) w2
      have hw0 : (w2.alloc (.cells cur 5)).ownsRow w.heap.size 5 1 (.slice (some ⟨w2.heap.size, 0, none⟩) 0 (1 + 5 * n)) ([] : List Int).length (([] : List Int).map (Value.int .u8)) := World.ownsRow_made w2 cur _ hb12.size (by unfold maxLen; omega) hcur
      have hL0 : LawAt w (w2.alloc (.cells cur 5)) w.heap.size p rg fg fcap name ov (.slice (some ⟨w2.heap.size, 0, none⟩) 0 (1 + 5 * n)) [91] [] 1 false ⟨#[]⟩ false := ⟨hE2.alloc _, hF2.keptT (Below.heap_alloc _ _ _ hF2.lt), hw0, fun b hb hw => by
          have := (hE2.row.lt b hb).2
          simp only [Value.ownBlock, Option.some.injEq] at hw
          omega, hb12.alloc hb12.size _, Nat.le_trans hb12.size (by simp)⟩
      obtain ⟨wg, wcap, w3, hap, hL⟩ := (hL0.alloc (.cells #[.int .u8 91] 5)).push (xs := [91]) (cap := 1) (byte1 (w2.alloc (.cells cur 5)) 91) (by simp) (by simp)
      have hap' : (Builtin.append_ #[22, 22] 22 #[.slice (some ⟨w2.heap.size, 0, none⟩) 0 (1 + 5 * n), .slice (some ⟨w2.heap.size + 1, 0, none⟩) 1 1]).run Try.prog ((w2.alloc (.cells cur 5)).alloc (.cells #[.int .u8 91] 5)) = .ok (.slice (some ⟨wg, 0, none⟩) 1 wcap) w3 := by
        have sz : (w2.alloc (.cells cur 5)).heap.size = w2.heap.size + 1 := by simp
        rw [sz] at hap
        exact hap
      have hL' : LawAt w w3 w.heap.size p rg fg fcap name ov (.slice (some ⟨wg, 0, none⟩) 1 wcap) [91] [91] 1 false ⟨#[]⟩ false := hL
      clear hap hL hL0 hw0 hE2 hF2 hb12
      go_wp2_with (first | (at_builtin; refine wpList_append_run hap' rfl _ _ rfl rfl rfl rfl ?_) | fail)
      clear hap' hmk2
      go_loopg [8, 9, 10, 11, 12, 13] n (fun g wv stv litv badv mv iv wx => ∃ (i m : Nat) (ov : Value) (out : List Int) (st : Int) (lit : ByteArray) (bad : Bool), i ≤ n ∧ g = n - i ∧ iv = .int .i64 i ∧ mv = .int .i64 m ∧ m ≤ i ∧ stv = .int .i64 st ∧ litv = .string lit ∧ badv = .bool bad ∧ LawAt w wx w.heap.size p rg fg fcap name ov wv out out st bad lit (decide ((0 : Int) < m)) ∧ out.length ≤ 1 + 5 * i)
      case atStart => exact ⟨0, 0, ov, [91], 1, ⟨#[]⟩, false, Nat.zero_le _, rfl, rfl, rfl, Nat.le_refl _, rfl, rfl, rfl, hL', by simp⟩
      case round =>
        clear hL'
        obtain ⟨i, m, ov, out, st, lit, bad, hi, hgk, rfl, rfl, hmi, rfl, rfl, rfl, hL, hol⟩ := hrel
        have HG : Hid (gk = n - i) := hgk
        clear hgk
        obtain ⟨wa, wc, rfl⟩ := ownsRow_form hL.wa
        by_cases hlt : i < n
        · exact absurd hlt (by have := HN0.out; omega)
        · clear hcs
          go_wp2_with fail
          refine (depth11 hL.ex).mono ?_
          rintro e w8 ⟨rfl, hE⟩
          subst w8
          go_wp2_with fail
          refine (frame12 hL.ex hL.fr).mono ?_
          rintro e w8 ⟨rfl, hb8⟩
          have hL8 := hL.below hb8
          clear hL hb8
          go_wp2_with fail
          refine (name13 hL8.ex hL8.fr).mono ?_
          rintro e w9 ⟨rfl, hE⟩
          subst w9
          have hBe : Below w.heap.size w w8 := hB.trans (hL8.be.mono hB.size)
          have hcv : ∀ q, (convert 22 9 (.slice wa out.length wc)).run Try.prog (w8.drewN q) = .ok (.string (strOfNums out)) (w8.drewN q) := fun q => conv9 (w := w8.drewN q) hL8.wa
          have hFE : ∀ b : Bool, (b || decide (65536 < out.length)) = (b || decide ((65536 : Int) < (out.length : Int))) := fun b => by
            rw [show decide (65536 < out.length) = decide ((65536 : Int) < (out.length : Int)) from by apply decide_eq_decide.2; omega]
          have HFE : Hid (∀ b : Bool, (b || decide (65536 < out.length)) = (b || decide ((65536 : Int) < (out.length : Int)))) := hFE
          clear hFE
          cases bad with
          | true =>
            go_wp2_with fail
            go_quiet ((first
              | (go_at_call 14; refine Calls.quiet_of_same (out14 (hL8.ex.drewN _)))
              | (go_at_call 15; refine Calls.quiet_of_same (failed15t (hL8.ex.drewN _)))
              | (go_at_call 16; refine Calls.quiet_of_same (state16 (hL8.ex.drewN _)))
              | (go_at_call 17; refine Calls.quiet_of_same (scalar17 (hL8.ex.drewN _)))
              | (go_at_call 18; refine Calls.quiet_of_same (lit18 (hL8.ex.drewN _)))
              | (go_at_call 19; refine Calls.quiet_of_same (inkey19 (hL8.ex.drewN _)))))
            go_wp2_with fail
            go_ret
            exact ⟨rfl, Below.drewN' hBe _⟩
          | false =>
            go_wp2_with fail
            go_quiet ((first
              | (go_at_call 14; refine Calls.quiet_of_same (out14 (hL8.ex.drewN _)))
              | (go_at_call 15; refine Calls.quiet_of_same (failed15f (hL8.ex.drewN _)))
              | (go_at_call 16; refine Calls.quiet_of_same (state16 (hL8.ex.drewN _)))
              | (go_at_call 17; refine Calls.quiet_of_same (scalar17 (hL8.ex.drewN _)))
              | (go_at_call 18; refine Calls.quiet_of_same (lit18 (hL8.ex.drewN _)))
              | (go_at_call 19; refine Calls.quiet_of_same (inkey19 (hL8.ex.drewN _)))))
            go_wp2_with fail
            go_ret
            exact ⟨rfl, Below.drewN' hBe _⟩
    | some a =>
      have hmk := make22 n (by omega)
      go_wp2_with fail
      clear hmk nn nz
      have hrow0 := rowB_new w 5 n (fun _ => .int .u8 0)
      have hB0 : Below w.heap.size w (w.alloc (.cells (rowOf n (fun _ => .int .u8 0)) 5)) := (Below.refl _ _).alloc (Nat.le_refl _) _
      generalize (w.alloc (.cells (rowOf n (fun _ => .int .u8 0)) 5)) = W0 at *
      go_loopg [6] n (fun g iv wr => ∃ k : Nat, k ≤ n ∧ g = n - k ∧ iv = .int .i64 k ∧ RowB wr w.heap.size 5 n (fun i => if i < k then .int .u8 (X i) else .int .u8 0) ∧ Below w.heap.size w wr)
      case atStart => exact ⟨0, Nat.zero_le _, rfl, rfl, hrow0.congr (fun i hi => by simp), hB0⟩
      case round =>
        clear hrow0 hB0
        obtain ⟨k, hk, hgk, rfl, hrow, hB⟩ := hrel
        have HG : Hid (gk = n - k) := hgk
        clear hgk
        by_cases hlt : k < n
        · obtain ⟨b, off, ea, hb, hcc⟩ := hc k hlt
          cases ea
          have c0 := (hB.cell (p := ⟨b, off + k, none⟩) hb).trans hcc
          have c1 := hrow.cell (i := k) hlt
          rw [if_neg (by omega)] at c1
          have f1 := hrow.frozen k
          go_wp2
          go_roundg (n - (k + 1))
          case measure => have := HG.out; omega
          case rel =>
            refine ⟨k + 1, by omega, rfl, by go_num, (hrow.setCell (i := k) _).congr (fun i hi => ?_), hB.setCell (Nat.le_refl _) _⟩
            by_cases e1 : i = k
            · simp [e1]
            · by_cases e2 : i < k
              · simp [e1, e2, show i < k + 1 by omega]
              · simp [e1, e2, show ¬ i < k + 1 by omega]
        · obtain rfl : k = n := by omega
          have hcs : BytesAt wr (some ⟨w.heap.size, 0, none⟩) k X := fun i hi => ⟨_, _, rfl, hrow.lt, by have := hrow.cell (i := i) hi; rw [if_pos hi] at this; simpa using this⟩
          clear hrow hc HG hlt
          go_wp2_with fail
          generalize wr = WW at *
          refine (new6 name _).mono ?_
          rintro e w1 ⟨p, rg, rfl, hE1, hb1⟩
          go_wp2_with fail
          refine (begin7 (begin24a hE1 hb1.size)).mono ?_
          rintro e w2 ⟨rfl, ov, fg, fcap, hE2, hF2, hem2⟩
          have hb12 : Below WW.heap.size WW w2 := hb1.trans (hem2.below hb1.size (fun b hb => by rw [show b = p from hb]; exact hE1.bp) (fun b hb => by simp [Value.ownBlock] at hb))
          clear hE1 hb1 hem2
          obtain ⟨cur, hmk2, hcur⟩ := make22c k (by omega) w2
          have hw0 : (w2.alloc (.cells cur 5)).ownsRow WW.heap.size 5 1 (.slice (some ⟨w2.heap.size, 0, none⟩) 0 (1 + 5 * k)) ([] : List Int).length (([] : List Int).map (Value.int .u8)) := World.ownsRow_made w2 cur _ hb12.size (by unfold maxLen; omega) hcur
          have hL0 : LawAt WW (w2.alloc (.cells cur 5)) WW.heap.size p rg fg fcap name ov (.slice (some ⟨w2.heap.size, 0, none⟩) 0 (1 + 5 * k)) [91] [] 1 false ⟨#[]⟩ false := ⟨hE2.alloc _, hF2.keptT (Below.heap_alloc _ _ _ hF2.lt), hw0, fun b hb hw => by
              have := (hE2.row.lt b hb).2
              simp only [Value.ownBlock, Option.some.injEq] at hw
              omega, hb12.alloc hb12.size _, Nat.le_trans hb12.size (by simp)⟩
          obtain ⟨wg, wcap, w3, hap, hL⟩ := (hL0.alloc (.cells #[.int .u8 91] 5)).push (xs := [91]) (cap := 1) (byte1 (w2.alloc (.cells cur 5)) 91) (by simp) (by simp)
          have hap' : (Builtin.append_ #[22, 22] 22 #[.slice (some ⟨w2.heap.size, 0, none⟩) 0 (1 + 5 * k), .slice (some ⟨w2.heap.size + 1, 0, none⟩) 1 1]).run Try.prog ((w2.alloc (.cells cur 5)).alloc (.cells #[.int .u8 91] 5)) = .ok (.slice (some ⟨wg, 0, none⟩) 1 wcap) w3 := by
            have sz : (w2.alloc (.cells cur 5)).heap.size = w2.heap.size + 1 := by simp
            rw [sz] at hap
            exact hap
          have hL' : LawAt WW w3 WW.heap.size p rg fg fcap name ov (.slice (some ⟨wg, 0, none⟩) 1 wcap) [91] [91] 1 false ⟨#[]⟩ false := hL
          clear hap hL hL0 hw0 hE2 hF2 hb12
          go_wp2_with (first | (at_builtin; refine wpList_append_run hap' rfl _ _ rfl rfl rfl rfl ?_) | fail)
          clear hap' hmk2
          go_loopg [8, 9, 10, 11, 12, 13] k (fun g wv stv litv badv mv iv wx => ∃ (i m : Nat) (ov : Value) (out : List Int) (st : Int) (lit : ByteArray) (bad : Bool), i ≤ k ∧ g = k - i ∧ iv = .int .i64 i ∧ mv = .int .i64 m ∧ m ≤ i ∧ stv = .int .i64 st ∧ litv = .string lit ∧ badv = .bool bad ∧ LawAt WW wx WW.heap.size p rg fg fcap name ov wv out out st bad lit (decide ((0 : Int) < m)) ∧ out.length ≤ 1 + 5 * i)
          case atStart => exact ⟨0, 0, ov, [91], 1, ⟨#[]⟩, false, Nat.zero_le _, rfl, rfl, rfl, Nat.le_refl _, rfl, rfl, rfl, hL', by simp⟩
          case round =>
            clear hL'
            obtain ⟨i, m, ov, out, st, lit, bad, hi, hgk, rfl, rfl, hmi, rfl, rfl, rfl, hL, hol⟩ := hrel
            have HG : Hid (gk = k - i) := hgk
            clear hgk
            obtain ⟨wa, wc, rfl⟩ := ownsRow_form hL.wa
            by_cases hlt : i < k
            · obtain ⟨b, off, ea, hb, hcc⟩ := hcs i hlt
              cases ea
              have c0 := (hL.be.cell (p := ⟨w.heap.size, i, none⟩) hb).trans (by simpa using hcc)
              clear hcc
              generalize X i = c at *
              by_cases hc1 : c = 123
              · subst hc1
                go_wp2_with fail
                go_roundg (k - (i + 1))
                case measure => have := HG.out; omega
                case rel => exact ⟨i + 1, m, ov, out, st, lit, bad, by omega, rfl, by go_num, rfl, by omega, rfl, rfl, rfl, hL, by omega⟩
              by_cases hc2 : c = 91
              · subst hc2
                go_wp2_with fail
                go_roundg (k - (i + 1))
                case measure => have := HG.out; omega
                case rel => exact ⟨i + 1, m, ov, out, st, lit, bad, by omega, rfl, by go_num, rfl, by omega, rfl, rfl, rfl, hL, by omega⟩
              have b1 : (c == (123 : Int)) = false := by simpa using hc1
              have b2 : (c == (91 : Int)) = false := by simpa using hc2
              go_wp2_with fail
              refine (begin7 (begin24b hL.ex hL.fr hL.bb (by omega) c hc1 hc2)).mono ?_
              rintro e w5 ⟨rfl, ov', hex, hfr, hem⟩
              have hL5 := hL.begun hex hfr hem
              clear hex hfr hem hL c0
              cases m with
              | zero =>
                have hs0 : sepK (decide ((0 : Int) < ((0 : Nat) : Int))) = [] := rfl
                rw [hs0, List.append_nil] at hL5
                obtain ⟨wg', wc', w6, hap1, hL7⟩ := (hL5.alloc (.cells #[.int .u8 110, .int .u8 117, .int .u8 108, .int .u8 108] 5)).push (xs := [110, 117, 108, 108]) (cap := 4) (byte4' w5) (by simp) (by simp; omega)
                have hap1' : (Builtin.append_ #[22, 22] 22 #[.slice wa out.length wc, .slice (some ⟨w5.heap.size, 0, none⟩) 4 4]).run Try.prog (w5.alloc (.cells #[.int .u8 110, .int .u8 117, .int .u8 108, .int .u8 108] 5)) = .ok (.slice (some ⟨wg', 0, none⟩) (out.length + 4) wc') w6 := hap1
                have HOL : Hid ((out ++ [110, 117, 108, 108]).length ≤ 1 + 5 * (i + 1)) := by show _ ≤ _; simp; omega
                clear hap1 hL5 hs0
                go_wp2_with (first | (at_builtin; refine wpList_append_run hap1' rfl _ _ rfl rfl rfl rfl ?_) | fail)
                clear hap1'
                refine (json8 c hc1 hc2 _).mono ?_
                rintro e w8 ⟨rfl, hE⟩
                subst w8
                rcases kN_cases (c := c) with k | k | k | k | k | k
                · subst k
                  clear b1 b2 hc1 hc2
                  have hk : kN 34 = 3 := by decide
                  have q1 : stN st 34 = 6 := by simp [stN]
                  have q2 : litN lit 34 = lit := by simp [litN]
                  have q3 : (bad || badN 34) = bad := by simp [badN]
                  rw [q1, q2, q3] at hL7
                  clear q1 q2 q3
                  rw [hk]
                  go_wp2_with fail
                  go_roundg (k - (i + 1))
                  case measure => have := HG.out; omega
                  case rel => exact ⟨i + 1, 0 + 1, ov', _, _, _, _, by omega, rfl, by go_num, by go_num, by omega, rfl, rfl, rfl, by rw [show decide ((0 : Int) < ((0 + 1 : Nat) : Int)) = true from by apply decide_eq_true; omega]; exact hL7, HOL.out⟩
                · obtain ⟨q2, q3⟩ := kN4 k lit bad
                  rw [q2, q3] at hL7
                  clear q2 q3
                  have HK : Hid (kN c = 4) := k
                  rw [k]
                  clear k
                  go_wp2_with fail
                  refine (num9 st c HK.out _).mono ?_
                  rintro e w9 ⟨rfl, hE⟩
                  subst w9
                  go_wp2_with fail
                  go_roundg (k - (i + 1))
                  case measure => have := HG.out; omega
                  case rel => exact ⟨i + 1, 0 + 1, ov', _, _, _, _, by omega, rfl, by go_num, by go_num, by omega, rfl, rfl, rfl, by rw [show decide ((0 : Int) < ((0 + 1 : Nat) : Int)) = true from by apply decide_eq_true; omega]; exact hL7, HOL.out⟩
                · subst k
                  clear b1 b2 hc1 hc2
                  have hk : kN 116 = 5 := by decide
                  have q1 : stN st 116 = 17 := by simp [stN]
                  have q2 : litN lit 116 = ⟨#[114, 117, 101]⟩ := by simp [litN]
                  have q3 : (bad || badN 116) = bad := by simp [badN]
                  rw [q1, q2, q3] at hL7
                  clear q1 q2 q3
                  rw [hk]
                  go_wp2_with fail
                  refine (word10 116 _).mono ?_
                  rintro e w9 ⟨rfl, hE⟩
                  subst w9
                  have hwd : wordN 116 = ⟨#[116, 114, 117, 101]⟩ := by simp [wordN]
                  have hx : Hid (ByteArray.extract ⟨#[116, 114, 117, 101]⟩ 1 4 = ⟨#[114, 117, 101]⟩) := by show _ = _; decide
                  rw [hwd]
                  go_wp2_with fail
                  go_roundg (k - (i + 1))
                  case measure => have := HG.out; omega
                  case rel => exact ⟨i + 1, 0 + 1, ov', _, _, _, _, by omega, rfl, by go_num, by go_num, by omega, rfl, rfl, rfl, by rw [show decide ((0 : Int) < ((0 + 1 : Nat) : Int)) = true from by apply decide_eq_true; omega]; rw [hx.out]; exact hL7, HOL.out⟩
                · subst k
                  clear b1 b2 hc1 hc2
                  have hk : kN 102 = 5 := by decide
                  have q1 : stN st 102 = 17 := by simp [stN]
                  have q2 : litN lit 102 = ⟨#[97, 108, 115, 101]⟩ := by simp [litN]
                  have q3 : (bad || badN 102) = bad := by simp [badN]
                  rw [q1, q2, q3] at hL7
                  clear q1 q2 q3
                  rw [hk]
                  go_wp2_with fail
                  refine (word10 102 _).mono ?_
                  rintro e w9 ⟨rfl, hE⟩
                  subst w9
                  have hwd : wordN 102 = ⟨#[102, 97, 108, 115, 101]⟩ := by simp [wordN]
                  have hx : Hid (ByteArray.extract ⟨#[102, 97, 108, 115, 101]⟩ 1 5 = ⟨#[97, 108, 115, 101]⟩) := by show _ = _; decide
                  rw [hwd]
                  go_wp2_with fail
                  go_roundg (k - (i + 1))
                  case measure => have := HG.out; omega
                  case rel => exact ⟨i + 1, 0 + 1, ov', _, _, _, _, by omega, rfl, by go_num, by go_num, by omega, rfl, rfl, rfl, by rw [show decide ((0 : Int) < ((0 + 1 : Nat) : Int)) = true from by apply decide_eq_true; omega]; rw [hx.out]; exact hL7, HOL.out⟩
                · subst k
                  clear b1 b2 hc1 hc2
                  have hk : kN 110 = 5 := by decide
                  have q1 : stN st 110 = 17 := by simp [stN]
                  have q2 : litN lit 110 = ⟨#[117, 108, 108]⟩ := by simp [litN]
                  have q3 : (bad || badN 110) = bad := by simp [badN]
                  rw [q1, q2, q3] at hL7
                  clear q1 q2 q3
                  rw [hk]
                  go_wp2_with fail
                  refine (word10 110 _).mono ?_
                  rintro e w9 ⟨rfl, hE⟩
                  subst w9
                  have hwd : wordN 110 = ⟨#[110, 117, 108, 108]⟩ := by simp [wordN]
                  have hx : Hid (ByteArray.extract ⟨#[110, 117, 108, 108]⟩ 1 4 = ⟨#[117, 108, 108]⟩) := by show _ = _; decide
                  rw [hwd]
                  go_wp2_with fail
                  go_roundg (k - (i + 1))
                  case measure => have := HG.out; omega
                  case rel => exact ⟨i + 1, 0 + 1, ov', _, _, _, _, by omega, rfl, by go_num, by go_num, by omega, rfl, rfl, rfl, by rw [show decide ((0 : Int) < ((0 + 1 : Nat) : Int)) = true from by apply decide_eq_true; omega]; rw [hx.out]; exact hL7, HOL.out⟩
                · obtain ⟨q1, q2, q3⟩ := kN0 k st lit bad
                  rw [q1, q2, q3] at hL7
                  clear q1 q2 q3
                  rw [k]
                  clear k
                  go_wp2_with fail
                  go_roundg (k - (i + 1))
                  case measure => have := HG.out; omega
                  case rel => exact ⟨i + 1, 0 + 1, ov', _, _, _, _, by omega, rfl, by go_num, by go_num, by omega, rfl, rfl, rfl, by rw [show decide ((0 : Int) < ((0 + 1 : Nat) : Int)) = true from by apply decide_eq_true; omega]; exact hL7, HOL.out⟩
              | succ m =>
                have hs0 : sepK (decide ((0 : Int) < ((m + 1 : Nat) : Int))) = [44] := by
                  have : decide ((0 : Int) < ((m + 1 : Nat) : Int)) = true := by apply decide_eq_true; omega
                  rw [this]
                  rfl
                rw [hs0] at hL5
                have hap0 := (hL5.alloc (.cells #[.int .u8 44] 5)).push (xs := [44]) (cap := 1) (byte1 w5 44) (by simp) (by simp; omega)
                obtain ⟨wg0, wc0, w6, hap0, hL6⟩ := hap0
                have hap0' : (Builtin.append_ #[22, 22] 22 #[.slice wa out.length wc, .slice (some ⟨w5.heap.size, 0, none⟩) 1 1]).run Try.prog (w5.alloc (.cells #[.int .u8 44] 5)) = .ok (.slice (some ⟨wg0, 0, none⟩) (out.length + 1) wc0) w6 := hap0
                obtain ⟨wg', wc', w7, hap1, hL7⟩ := (hL6.alloc (.cells #[.int .u8 110, .int .u8 117, .int .u8 108, .int .u8 108] 5)).push (xs := [110, 117, 108, 108]) (cap := 4) (byte4' w6) (by simp) (by simp; omega)
                have hap1' : (Builtin.append_ #[22, 22] 22 #[.slice (some ⟨wg0, 0, none⟩) (out.length + 1) wc0, .slice (some ⟨w6.heap.size, 0, none⟩) 4 4]).run Try.prog (w6.alloc (.cells #[.int .u8 110, .int .u8 117, .int .u8 108, .int .u8 108] 5)) = .ok (.slice (some ⟨wg', 0, none⟩) (out.length + 1 + 4) wc') w7 := by
                  have e : (out ++ [44]).length = out.length + 1 := by simp
                  rw [e] at hap1
                  exact hap1
                have e : (out ++ [44]).length = out.length + 1 := by simp
                rw [e] at hL7
                have HOL : Hid ((out ++ [44] ++ [110, 117, 108, 108]).length ≤ 1 + 5 * (i + 1)) := by show _ ≤ _; simp; omega
                clear hap0 hap1 hL5 hL6 hs0 e
                go_wp2_with (first | (at_builtin; first | (refine wpList_append_run hap0' rfl _ _ rfl rfl rfl rfl ?_; clear hap0') | refine wpList_append_run hap1' rfl _ _ rfl rfl rfl rfl ?_) | fail)
                clear hap1'
                refine (json8 c hc1 hc2 _).mono ?_
                rintro e w8 ⟨rfl, hE⟩
                subst w8
                rcases kN_cases (c := c) with k | k | k | k | k | k
                · subst k
                  clear b1 b2 hc1 hc2
                  have hk : kN 34 = 3 := by decide
                  have q1 : stN st 34 = 6 := by simp [stN]
                  have q2 : litN lit 34 = lit := by simp [litN]
                  have q3 : (bad || badN 34) = bad := by simp [badN]
                  rw [q1, q2, q3] at hL7
                  clear q1 q2 q3
                  rw [hk]
                  go_wp2_with fail
                  go_roundg (k - (i + 1))
                  case measure => have := HG.out; omega
                  case rel => exact ⟨i + 1, (m + 1) + 1, ov', _, _, _, _, by omega, rfl, by go_num, by go_num, by omega, rfl, rfl, rfl, by rw [show decide ((0 : Int) < (((m + 1) + 1 : Nat) : Int)) = true from by apply decide_eq_true; omega]; exact hL7, HOL.out⟩
                · obtain ⟨q2, q3⟩ := kN4 k lit bad
                  rw [q2, q3] at hL7
                  clear q2 q3
                  have HK : Hid (kN c = 4) := k
                  rw [k]
                  clear k
                  go_wp2_with fail
                  refine (num9 st c HK.out _).mono ?_
                  rintro e w9 ⟨rfl, hE⟩
                  subst w9
                  go_wp2_with fail
                  go_roundg (k - (i + 1))
                  case measure => have := HG.out; omega
                  case rel => exact ⟨i + 1, (m + 1) + 1, ov', _, _, _, _, by omega, rfl, by go_num, by go_num, by omega, rfl, rfl, rfl, by rw [show decide ((0 : Int) < (((m + 1) + 1 : Nat) : Int)) = true from by apply decide_eq_true; omega]; exact hL7, HOL.out⟩
                · subst k
                  clear b1 b2 hc1 hc2
                  have hk : kN 116 = 5 := by decide
                  have q1 : stN st 116 = 17 := by simp [stN]
                  have q2 : litN lit 116 = ⟨#[114, 117, 101]⟩ := by simp [litN]
                  have q3 : (bad || badN 116) = bad := by simp [badN]
                  rw [q1, q2, q3] at hL7
                  clear q1 q2 q3
                  rw [hk]
                  go_wp2_with fail
                  refine (word10 116 _).mono ?_
                  rintro e w9 ⟨rfl, hE⟩
                  subst w9
                  have hwd : wordN 116 = ⟨#[116, 114, 117, 101]⟩ := by simp [wordN]
                  have hx : Hid (ByteArray.extract ⟨#[116, 114, 117, 101]⟩ 1 4 = ⟨#[114, 117, 101]⟩) := by show _ = _; decide
                  rw [hwd]
                  go_wp2_with fail
                  go_roundg (k - (i + 1))
                  case measure => have := HG.out; omega
                  case rel => exact ⟨i + 1, (m + 1) + 1, ov', _, _, _, _, by omega, rfl, by go_num, by go_num, by omega, rfl, rfl, rfl, by rw [show decide ((0 : Int) < (((m + 1) + 1 : Nat) : Int)) = true from by apply decide_eq_true; omega]; rw [hx.out]; exact hL7, HOL.out⟩
                · subst k
                  clear b1 b2 hc1 hc2
                  have hk : kN 102 = 5 := by decide
                  have q1 : stN st 102 = 17 := by simp [stN]
                  have q2 : litN lit 102 = ⟨#[97, 108, 115, 101]⟩ := by simp [litN]
                  have q3 : (bad || badN 102) = bad := by simp [badN]
                  rw [q1, q2, q3] at hL7
                  clear q1 q2 q3
                  rw [hk]
                  go_wp2_with fail
                  refine (word10 102 _).mono ?_
                  rintro e w9 ⟨rfl, hE⟩
                  subst w9
                  have hwd : wordN 102 = ⟨#[102, 97, 108, 115, 101]⟩ := by simp [wordN]
                  have hx : Hid (ByteArray.extract ⟨#[102, 97, 108, 115, 101]⟩ 1 5 = ⟨#[97, 108, 115, 101]⟩) := by show _ = _; decide
                  rw [hwd]
                  go_wp2_with fail
                  go_roundg (k - (i + 1))
                  case measure => have := HG.out; omega
                  case rel => exact ⟨i + 1, (m + 1) + 1, ov', _, _, _, _, by omega, rfl, by go_num, by go_num, by omega, rfl, rfl, rfl, by rw [show decide ((0 : Int) < (((m + 1) + 1 : Nat) : Int)) = true from by apply decide_eq_true; omega]; rw [hx.out]; exact hL7, HOL.out⟩
                · subst k
                  clear b1 b2 hc1 hc2
                  have hk : kN 110 = 5 := by decide
                  have q1 : stN st 110 = 17 := by simp [stN]
                  have q2 : litN lit 110 = ⟨#[117, 108, 108]⟩ := by simp [litN]
                  have q3 : (bad || badN 110) = bad := by simp [badN]
                  rw [q1, q2, q3] at hL7
                  clear q1 q2 q3
                  rw [hk]
                  go_wp2_with fail
                  refine (word10 110 _).mono ?_
                  rintro e w9 ⟨rfl, hE⟩
                  subst w9
                  have hwd : wordN 110 = ⟨#[110, 117, 108, 108]⟩ := by simp [wordN]
                  have hx : Hid (ByteArray.extract ⟨#[110, 117, 108, 108]⟩ 1 4 = ⟨#[117, 108, 108]⟩) := by show _ = _; decide
                  rw [hwd]
                  go_wp2_with fail
                  go_roundg (k - (i + 1))
                  case measure => have := HG.out; omega
                  case rel => exact ⟨i + 1, (m + 1) + 1, ov', _, _, _, _, by omega, rfl, by go_num, by go_num, by omega, rfl, rfl, rfl, by rw [show decide ((0 : Int) < (((m + 1) + 1 : Nat) : Int)) = true from by apply decide_eq_true; omega]; rw [hx.out]; exact hL7, HOL.out⟩
                · obtain ⟨q1, q2, q3⟩ := kN0 k st lit bad
                  rw [q1, q2, q3] at hL7
                  clear q1 q2 q3
                  rw [k]
                  clear k
                  go_wp2_with fail
                  go_roundg (k - (i + 1))
                  case measure => have := HG.out; omega
                  case rel => exact ⟨i + 1, (m + 1) + 1, ov', _, _, _, _, by omega, rfl, by go_num, by go_num, by omega, rfl, rfl, rfl, by rw [show decide ((0 : Int) < (((m + 1) + 1 : Nat) : Int)) = true from by apply decide_eq_true; omega]; exact hL7, HOL.out⟩
            · clear hcs
              go_wp2_with fail
              refine (depth11 hL.ex).mono ?_
              rintro e w8 ⟨rfl, hE⟩
              subst w8
              go_wp2_with fail
              refine (frame12 hL.ex hL.fr).mono ?_
              rintro e w8 ⟨rfl, hb8⟩
              have hL8 := hL.below hb8
              clear hL hb8
              go_wp2_with fail
              refine (name13 hL8.ex hL8.fr).mono ?_
              rintro e w9 ⟨rfl, hE⟩
              subst w9
              have hBe : Below w.heap.size w w8 := hB.trans (hL8.be.mono hB.size)
              have hcv : ∀ q, (convert 22 9 (.slice wa out.length wc)).run Try.prog (w8.drewN q) = .ok (.string (strOfNums out)) (w8.drewN q) := fun q => conv9 (w := w8.drewN q) hL8.wa
              have hFE : ∀ b : Bool, (b || decide (65536 < out.length)) = (b || decide ((65536 : Int) < (out.length : Int))) := fun b => by
                rw [show decide (65536 < out.length) = decide ((65536 : Int) < (out.length : Int)) from by apply decide_eq_decide.2; omega]
              have HFE : Hid (∀ b : Bool, (b || decide (65536 < out.length)) = (b || decide ((65536 : Int) < (out.length : Int)))) := hFE
              clear hFE
              cases bad with
              | true =>
                go_wp2_with fail
                go_quiet ((first
                  | (go_at_call 14; refine Calls.quiet_of_same (out14 (hL8.ex.drewN _)))
                  | (go_at_call 15; refine Calls.quiet_of_same (failed15t (hL8.ex.drewN _)))
                  | (go_at_call 16; refine Calls.quiet_of_same (state16 (hL8.ex.drewN _)))
                  | (go_at_call 17; refine Calls.quiet_of_same (scalar17 (hL8.ex.drewN _)))
                  | (go_at_call 18; refine Calls.quiet_of_same (lit18 (hL8.ex.drewN _)))
                  | (go_at_call 19; refine Calls.quiet_of_same (inkey19 (hL8.ex.drewN _)))))
                go_wp2_with fail
                go_ret
                exact ⟨rfl, Below.drewN' hBe _⟩
              | false =>
                go_wp2_with fail
                go_quiet ((first
                  | (go_at_call 14; refine Calls.quiet_of_same (out14 (hL8.ex.drewN _)))
                  | (go_at_call 15; refine Calls.quiet_of_same (failed15f (hL8.ex.drewN _)))
                  | (go_at_call 16; refine Calls.quiet_of_same (state16 (hL8.ex.drewN _)))
                  | (go_at_call 17; refine Calls.quiet_of_same (scalar17 (hL8.ex.drewN _)))
                  | (go_at_call 18; refine Calls.quiet_of_same (lit18 (hL8.ex.drewN _)))
                  | (go_at_call 19; refine Calls.quiet_of_same (inkey19 (hL8.ex.drewN _)))))
                go_wp2_with fail
                go_ret
                exact ⟨rfl, Below.drewN' hBe _⟩
  · go_wp2_with fail
    all_goals
      go_ret
      exact ⟨rfl, Below.refl _ _⟩
end Go.Proofs.Qxb6603654a
