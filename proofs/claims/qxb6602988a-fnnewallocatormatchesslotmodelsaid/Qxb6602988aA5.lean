import Derived.Test.Qxb6602988aA4
namespace Go.Proofs.Qxb6602988a
open Go.RowKit Go.WideShapes Go.ChangeShapes
set_option linter.unusedVariables false
set_option linter.unusedSimpArgs false

/-- old blocks but p and tg are as they were -/
structure Frame2 (w w' : World) (p tg : Nat) : Prop where
  os : w'.os = w.os
  tape : w'.tape = w.tape
  output : w'.output = w.output
  size : w.heap.size ≤ w'.heap.size
  block : ∀ b, b < w.heap.size → b ≠ p → b ≠ tg → w'.heap[b]? = w.heap[b]?
theorem Frame2.refl (w : World) (p tg : Nat) : Frame2 w w p tg := ⟨rfl, rfl, rfl, Nat.le_refl _, fun _ _ _ _ => rfl⟩
theorem Frame2.trans {w w1 w2 : World} {p tg : Nat} (h : Frame2 w w1 p tg) (k : Frame2 w1 w2 p tg) : Frame2 w w2 p tg :=
  ⟨k.os.trans h.os, k.tape.trans h.tape, k.output.trans h.output, Nat.le_trans h.size k.size, fun b h1 h2 h3 => (k.block b (Nat.lt_of_lt_of_le h1 h.size) h2 h3).trans (h.block b h1 h2 h3)⟩
theorem Frame2.of_below {w w' : World} {p tg : Nat} (h : Below w.heap.size w w') : Frame2 w w' p tg := ⟨h.os, h.tape, h.output, h.size, fun b h1 _ _ => h.block b h1⟩
theorem Frame2.setP {w w' : World} {p tg : Nat} (h : Frame2 w w' p tg) (j : Nat) (v : Value) : Frame2 w (w'.setCell ⟨p, j, none⟩ v) p tg :=
  ⟨h.os, h.tape, h.output, by simp [World.setCell]; exact h.size, fun b h1 h2 h3 => (Below.heap_setCell _ _ _ _ h2).trans (h.block b h1 h2 h3)⟩
theorem Frame2.setT {w w' : World} {p tg : Nat} (h : Frame2 w w' p tg) (j : Nat) (v : Value) : Frame2 w (w'.setCell ⟨tg, j, none⟩ v) p tg :=
  ⟨h.os, h.tape, h.output, by simp [World.setCell]; exact h.size, fun b h1 h2 h3 => (Below.heap_setCell _ _ _ _ h3).trans (h.block b h1 h2 h3)⟩
theorem Frame2.drewN {w w' : World} {p tg : Nat} (h : Frame2 w w' p tg) (n : Nat) : Frame2 w (w'.drewN n) p tg := ⟨h.os, h.tape, h.output, h.size, h.block⟩
theorem Frame2.below {w w' : World} {p tg B : Nat} (h : Frame2 w w' p tg) (hB : B ≤ w.heap.size) (h1 : B ≤ p) (h2 : B ≤ tg) : Below B w w' := ⟨h.os, h.tape, h.output, h.size, fun b hb => h.block b (by omega) (by omega) (by omega)⟩

theorem ownsRow_cell {w : World} {base : Nat} {a : Option Addr} {n c : Nat} {ns : List Nat} (h : w.ownsRow base 42 1 (.slice a n c) ns.length (ns.map ekN)) {j : Nat} (hj : j < ns.length) :
    ∃ g, a = some ⟨g, 0, none⟩ ∧ w.cell? ⟨g, j, none⟩ = some (.int .u32 (ns.getD j 0 : Nat)) := by
  rcases h.2 with ⟨e, h0⟩ | ⟨g, cap, cur, e, _⟩
  · omega
  · simp at e
    obtain ⟨rfl, rfl, rfl⟩ := e
    refine ⟨g, rfl, ?_⟩
    have := h.cells (g := g) rfl j (ekN (ns.getD j 0)) (by simp [hj])
    rw [add_plain] at this
    simpa [ekN] using this

section
variable {w w' : World} {base p N low mo mh tg : Nat} {fv : Value} {Lof : List (Verd × Nat)} {fr : List Nat} {tk : Nat → Bool} {Lh : List (Verd × Option (Nat × Nat × Nat))} {grp : List (Verd × List Nat)}
theorem AllocAt.drewN (h : AllocAt w base p N low mo mh tg fv Lof fr tk Lh grp) (q : Nat) : AllocAt (w.drewN q) base p N low mo mh tg fv Lof fr tk Lh grp := h.kept (B := 0) (fun g hg => rfl)
/-- a row of slots is neither p nor tg -/
theorem AllocAt.row_ne (h : AllocAt w base p N low mo mh tg fv Lof fr tk Lh grp) {v : Value} {n : Nat} {xs : List Value} (hv : w.ownsRow base 42 1 v n xs) (b : Nat) (hb : v.ownBlock = some b) : b ≠ p ∧ b ≠ tg := by
  obtain ⟨cur, hc⟩ := ownsRow_ne hv hb
  refine ⟨fun e => ?_, fun e => ?_⟩
  · obtain ⟨c, hb', _⟩ := h.blk
    rw [e, hb'] at hc
    simp at hc
  · obtain ⟨c, hb', _⟩ := h.taken
    rw [e, hb'] at hc
    simp at hc
/-- 'a.taken[i] = true' -/
theorem AllocAt.take_put (h : AllocAt w base p N low mo mh tg fv Lof fr tk Lh grp) (i : Nat) : AllocAt (w.setCell ⟨tg, i, none⟩ (.bool true)) base p N low mo mh tg fv Lof fr (fun j => decide (j = i) || tk j) Lh grp := by
  have hpt : p ≠ tg := h.blk.ne h.taken (by decide)
  have hr : ∀ {v : Value} {n : Nat} {xs : List Value}, w.ownsRow base 42 1 v n xs → (w.setCell ⟨tg, i, none⟩ (.bool true)).ownsRow base 42 1 v n xs := fun {v n xs} ho =>
    ownsRow_of_block ho (fun g hg => Below.heap_setCell _ _ _ _ (h.row_ne ho g hg).2)
  refine ⟨h.blk.setOther _ _ hpt, h.of.setCell _ _ (h.taken.ne_map h.of).symm, hr h.free, (h.taken.setCell (i := i) _).congr (fun j hj => ?_), h.hold.setCell _ _ (h.taken.ne_map h.hold).symm, h.keys, fun v x hx => ?_, h.apart, h.fapart, h.mm, h.big⟩
  · by_cases e : j = i <;> simp [e]
  · obtain ⟨ns, h1, h2⟩ := h.rows v x hx
    exact ⟨ns, h1, hr h2⟩
/-- 'a.lowest = l' -/
theorem AllocAt.low_put (h : AllocAt w base p N low mo mh tg fv Lof fr tk Lh grp) (l : Nat) : AllocAt (w.setCell ⟨p, 3, none⟩ (.int .i64 (l : Int))) base p N l mo mh tg fv Lof fr tk Lh grp := by
  have hpt : p ≠ tg := h.blk.ne h.taken (by decide)
  have hr : ∀ {v : Value} {n : Nat} {xs : List Value}, w.ownsRow base 42 1 v n xs → (w.setCell ⟨p, 3, none⟩ (.int .i64 (l : Int))).ownsRow base 42 1 v n xs := fun {v n xs} ho =>
    ownsRow_of_block ho (fun g hg => Below.heap_setCell _ _ _ _ (h.row_ne ho g hg).1)
  refine ⟨(h.blk.setCell (i := 3) _).congr (fun j hj => ?_), h.of.setCell _ _ (h.blk.ne_map h.of).symm, hr h.free, h.taken.setOther _ _ hpt.symm, h.hold.setCell _ _ (h.blk.ne_map h.hold).symm, h.keys, fun v x hx => ?_, h.apart, h.fapart, h.mm, h.big⟩
  · match j, hj with
    | 0, _ => rfl
    | 1, _ => rfl
    | 2, _ => rfl
    | 3, _ => rfl
    | 4, _ => rfl
    | 5, _ => rfl
  · obtain ⟨ns, h1, h2⟩ := h.rows v x hx
    exact ⟨ns, h1, hr h2⟩
/-- the row that holding has for v, nil where it has none -/
theorem AllocAt.row_of (h : AllocAt w base p N low mo mh tg fv Lof fr tk Lh grp) (v : Verd) : ∃ a c, evH ((aget Lh v).getD none) = .slice a ((aget grp v).getD []).length c ∧ w.ownsRow base 42 1 (.slice a ((aget grp v).getD []).length c) ((aget grp v).getD []).length (((aget grp v).getD []).map ekN) := by
  have hs := aget_isSome_of_keys h.keys v
  cases hx : aget Lh v with
  | none =>
    rw [hx] at hs
    have hgn : aget grp v = none := by
      cases hy : aget grp v with
      | none => rfl
      | some z => rw [hy] at hs; simp at hs
    rw [hgn]
    exact ⟨none, 0, rfl, World.ownsRow_nil _ _ _ _⟩
  | some y =>
    obtain ⟨ns, h1, h2⟩ := h.rows v y hx
    rw [h1]
    obtain ⟨a, c, e⟩ := ownsRow_form h2
    exact ⟨a, c, e, e ▸ h2⟩
end

theorem find_at (tk : Nat → Bool) (ns : List Nat) (k : Nat) (hk : k < ns.length) (h : ∀ j, j < k → tk (ns.getD j 0) = true) (hf : tk (ns.getD k 0) = false) : ns.find? (fun a => !tk a) = some (ns.getD k 0) := by
  induction ns generalizing k with
  | nil => simp at hk
  | cons x r ih =>
    cases k with
    | zero => simp at hf; simp [List.find?_cons, hf]
    | succ k =>
      have h0 := h 0 (by omega)
      simp at h0
      rw [List.find?_cons]
      simp only [h0, Bool.not_true]
      have := ih k (by simpa using hk) (fun j hj => by have := h (j + 1) (by omega); simpa using this) (by simpa using hf)
      simpa using this
theorem find_none (tk : Nat → Bool) (ns : List Nat) (h : ∀ j, j < ns.length → tk (ns.getD j 0) = true) : ns.find? (fun a => !tk a) = none := by
  rw [List.find?_eq_none]
  intro x hx
  obtain ⟨j, hj, rfl⟩ := List.getElem_of_mem hx
  have := h j hj
  simp [hj] at this
  simp [this]
theorem getD_mem {ns : List Nat} {k : Nat} (hk : k < ns.length) : ns.getD k 0 ∈ ns := by simp [hk]

/-- what take answers -/
def takeR (grp : List (Verd × List Nat)) (fr : List Nat) (tk : Nat → Bool) (v : Verd) : Option Nat := (((aget grp v).getD []).find? (fun a => !tk a)).or (fr.find? (fun a => !tk a))
def takeT (tk : Nat → Bool) : Option Nat → Nat → Bool
  | some a => fun j => decide (j = a) || tk j
  | none => tk
def LowOK (low : Nat) (fr : List Nat) (tk : Nat → Bool) : Prop := low ≤ fr.length ∧ ∀ i, i < low → tk (fr.getD i 0) = true

def TakePost (w : World) (base p N mo mh tg : Nat) (fv : Value) (Lof : List (Verd × Nat)) (fr : List Nat) (tk : Nat → Bool) (Lh : List (Verd × Option (Nat × Nat × Nat))) (grp : List (Verd × List Nat)) (r : Option Nat) (e : Ending) (w' : World) : Prop :=
  e = .returned (.tuple #[.int .u32 (r.getD 0 : Nat), .bool r.isSome]) ∧ ∃ low', AllocAt w' base p N low' mo mh tg fv Lof fr (takeT tk r) Lh grp ∧ LowOK low' fr (takeT tk r) ∧ Frame2 w w' p tg

set_option maxHeartbeats 1000000 in
theorem take41 (base p N low mo mh tg : Nat) (fv : Value) (Lof : List (Verd × Nat)) (fr : List Nat) (tk : Nat → Bool) (Lh : List (Verd × Option (Nat × Nat × Nat))) (grp : List (Verd × List Nat)) (v : Verd) (w : World)
    (hal : AllocAt w base p N low mo mh tg fv Lof fr tk Lh grp) (hlow : LowOK low fr tk) (hfr : ∀ a ∈ fr, a < N) (hgr : ∀ a ∈ (aget grp v).getD [], a < N) (hN : N ≤ 65537) (hfl : fr.length ≤ 65537) (hgl : ((aget grp v).getD []).length ≤ 65537) (hkey : ∃ l, keyOf Try.prog 57 (evV v) = some l) :
    Calls Try.prog 41 #[.pointer (some ⟨p, 0, none⟩), .agg #[.int .u8 v.1, .int .u16 v.2]] w fun e w' => TakePost w base p N mo mh tg fv Lof fr tk Lh grp (takeR grp fr tk v) e w' := by
  obtain ⟨l, hl⟩ := hkey
  obtain ⟨ra, rc, hev, hrow⟩ := hal.row_of v
  obtain ⟨fa, fc, rfl⟩ := ownsRow_form hal.free
  have hal1 := hal.alloc (.cells #[.int .u8 v.1, .int .u16 v.2] 57)
  have lk : ∀ nq, (Instr.lookup 83 (.map (some mh)) (.agg #[.int .u8 v.1, .int .u16 v.2]) false).run Try.prog ((w.alloc (.cells #[.int .u8 v.1, .int .u16 v.2] 57)).drewN nq) = .ok (.slice ra ((aget grp v).getD []).length rc) ((w.alloc (.cells #[.int .u8 v.1, .int .u16 v.2] 57)).drewN nq) := fun nq => by
    have := (hal1.drewN nq).hold.lookup law57 evV_inj Try.underlying83 (zero51 _) hl false
    rw [hev] at this
    exact this
  have c4 : (w.alloc (.cells #[.int .u8 v.1, .int .u16 v.2] 57)).cell? ⟨p, 4, none⟩ = some (.map (some mh)) := hal1.blk.cell (i := 4) (by omega)
  have hnsl : ((aget grp v).getD []).length ≤ 65537 := hgl
  go_enter Try.func41, Try.ntmps41
  go_wp2
  go_quiet (fail)
  go_wp2
  have halW := hal1.drewN nq
  have hfW : Frame2 w ((w.alloc (.cells #[.int .u8 v.1, .int .u16 v.2] 57)).drewN nq) p tg := (Frame2.of_below ((Below.refl _ _).alloc (Nat.le_refl _) _)).drewN nq
  have hrowW : ((w.alloc (.cells #[.int .u8 v.1, .int .u16 v.2] 57)).drewN nq).ownsRow base 42 1 (.slice ra ((aget grp v).getD []).length rc) ((aget grp v).getD []).length (((aget grp v).getD []).map ekN) := hrow.alloc _
  clear lk c4 hev hrow hal1 hal hl
  have HD : Hid (takeR grp fr tk v = (((aget grp v).getD []).find? (fun a => !tk a)).or (fr.find? (fun a => !tk a))) := rfl
  generalize (w.alloc (.cells #[.int .u8 v.1, .int .u16 v.2] 57)).drewN nq = W at *
  generalize (aget grp v).getD [] = ns at *
  go_loop [16] (fun i => ∃ k : Nat, k ≤ ns.length ∧ i = .int .i64 k ∧ Aside (∀ j, j < k → tk (ns.getD j 0) = true)) (fun i => ns.length - (intOf i).toNat)
  case atStart => exact ⟨0, Nat.zero_le _, rfl, fun j hj => by omega⟩
  case round =>
    obtain ⟨k, hk, rfl, hall⟩ := hrel
    by_cases hlt : k < ns.length
    · obtain ⟨g, rfl, hc⟩ := ownsRow_cell hrowW hlt
      have hnN := hgr _ (getD_mem hlt)
      have c2 : W.cell? ⟨p, 2, none⟩ = some (.slice (some ⟨tg, 0, none⟩) N N) := halW.blk.cell (i := 2) (by omega)
      have ct := halW.taken.cell (i := ns.getD k 0) hnN
      have ft := halW.taken.frozen (ns.getD k 0)
      have HF : Hid (tk (ns.getD k 0) = false → ns.find? (fun a => !tk a) = some (ns.getD k 0)) := fun hf => find_at tk ns k hlt hall.out hf
      generalize hx : ns.getD k 0 = x at *
      cases htk : tk x with
      | true =>
        rw [htk] at ct
        have HT : Hid (tk x = true) := htk
        have HX : Hid (ns.getD k 0 = x) := hx
        clear htk hx HF
        go_wp2
        go_round
        case rel => exact ⟨k + 1, by omega, by go_num, fun j hj => by
                      by_cases e : j = k
                      · rw [e, HX.out]; exact HT.out
                      · exact hall.out j (by omega)⟩
        case measure => simp [intOf]; omega
      | false =>
        rw [htk] at ct
        have hfx : Hid (takeR grp fr tk v = some x) := by show _ = _; rw [HD.out, HF.out htk]; rfl
        clear hx HF
        go_wp2
        go_ret2
        rw [hfx.out]
        refine ⟨rfl, low, halW.take_put x, ?_, hfW.setT _ _⟩
        exact ⟨hlow.1, fun i hi => by show (decide _ || tk _) = true; rw [hlow.2 i hi]; simp⟩
    · have hnf : ns.find? (fun a => !tk a) = none := find_none tk ns (fun j hj => hall.out j (by omega))
      have HD2 : Hid (takeR grp fr tk v = fr.find? (fun a => !tk a)) := by show _ = _; rw [HD.out, hnf]; rfl
      clear hnf HD
      go_wp2
      go_loopg [36] (fr.length - low) (fun g _ wr => ∃ l2 : Nat, l2 ≤ fr.length ∧ g = fr.length - l2 ∧ AllocAt wr base p N l2 mo mh tg (.slice fa fr.length fc) Lof fr tk Lh grp ∧ Frame2 w wr p tg ∧ Aside (∀ i, i < l2 → tk (fr.getD i 0) = true))
      case atStart => exact ⟨low, hlow.1, rfl, halW, hfW, hlow.2⟩
      case round =>
        clear hrowW halW hfW hlow
        obtain ⟨l2, hl2, hg, halW, hfW, hal2⟩ := hrel
        have HG : Hid (gk = fr.length - l2) := hg
        clear hg
        have c3 : wr.cell? ⟨p, 3, none⟩ = some (.int .i64 l2) := halW.blk.cell (i := 3) (by omega)
        have c1 : wr.cell? ⟨p, 1, none⟩ = some (.slice fa fr.length fc) := halW.blk.cell (i := 1) (by omega)
        have f3 := halW.blk.frozen 3
        by_cases hlt2 : l2 < fr.length
        · obtain ⟨g, rfl, hc⟩ := ownsRow_cell halW.free hlt2
          have hnN := hfr _ (getD_mem hlt2)
          have c2 : wr.cell? ⟨p, 2, none⟩ = some (.slice (some ⟨tg, 0, none⟩) N N) := halW.blk.cell (i := 2) (by omega)
          have ct := halW.taken.cell (i := fr.getD l2 0) hnN
          have ft := halW.taken.frozen (fr.getD l2 0)
          have hpt : p ≠ tg := halW.blk.ne halW.taken (by decide)
          have hpt' : tg ≠ p := hpt.symm
          have HF : Hid (tk (fr.getD l2 0) = false → fr.find? (fun a => !tk a) = some (fr.getD l2 0)) := fun hf => find_at tk fr l2 hlt2 hal2.out hf
          generalize hx : fr.getD l2 0 = x at *
          have HX : Hid (fr.getD l2 0 = x) := hx
          clear hx
          cases htk : tk x with
          | true =>
            rw [htk] at ct
            have HT : Hid (tk x = true) := htk
            clear htk HF
            go_wp2
            go_quiet (fail)
            go_wp2
            go_quiet (fail)
            go_wp2
            go_roundg (fr.length - (l2 + 1))
            case measure => have := HG.out; omega
            case rel =>
              refine ⟨l2 + 1, by omega, rfl, ?_, (hfW.drewN _).setP _ _, fun i hi => ?_⟩
              · rw [show ((l2 : Int) + 1) = ((l2 + 1 : Nat) : Int) from by omega]
                exact (halW.drewN _).low_put (l2 + 1)
              · by_cases e : i = l2
                · rw [e, HX.out]; exact HT.out
                · exact hal2.out i (by omega)
          | false =>
            rw [htk] at ct
            have HR : Hid (takeR grp fr tk v = some x) := by show _ = _; rw [HD2.out, HF.out htk]
            have HT : Hid (tk x = false) := htk
            clear htk HF
            go_wp2
            go_quiet (fail)
            go_wp2
            go_quiet (fail)
            go_wp2
            go_ret2
            rw [HR.out]
            refine ⟨rfl, l2 + 1, ?_, ⟨by omega, fun i hi => ?_⟩, ((hfW.drewN _).setP _ _).setT _ _⟩
            · rw [show ((l2 : Int) + 1) = ((l2 + 1 : Nat) : Int) from by omega]
              exact ((halW.drewN _).low_put (l2 + 1)).take_put x
            · show (decide _ || tk _) = true
              by_cases e : i = l2
              · rw [e, HX.out]; simp
              · rw [hal2.out i (by omega)]; simp
        · have hnone : fr.find? (fun a => !tk a) = none := find_none tk fr (fun j hj => hal2.out j (by omega))
          have HR : Hid (takeR grp fr tk v = none) := by show _ = _; rw [HD2.out, hnone]
          clear hnone
          go_wp2
          go_quiet (fail)
          go_wp2
          go_ret2
          rw [HR.out]
          exact ⟨rfl, l2, halW.drewN _, ⟨hl2, hal2.out⟩, hfW.drewN _⟩

set_option maxHeartbeats 400000 in
theorem take35 (base p N low mo mh tg : Nat) (fv : Value) (Lof : List (Verd × Nat)) (fr : List Nat) (tk : Nat → Bool) (Lh : List (Verd × Option (Nat × Nat × Nat))) (grp : List (Verd × List Nat)) (v : Verd) (w : World)
    (hal : AllocAt w base p N low mo mh tg fv Lof fr tk Lh grp) (hlow : LowOK low fr tk) (hfr : ∀ a ∈ fr, a < N) (hgr : ∀ a ∈ (aget grp v).getD [], a < N) (hN : N ≤ 65537) (hfl : fr.length ≤ 65537) (hgl : ((aget grp v).getD []).length ≤ 65537) (hkey : ∃ l, keyOf Try.prog 57 (evV v) = some l) :
    Calls Try.prog 35 #[.pointer (some ⟨p, 0, none⟩), .agg #[.int .u8 v.1, .int .u16 v.2]] w fun e w' => TakePost w base p N mo mh tg fv Lof fr tk Lh grp (takeR grp fr tk v) e w' := by
  go_enter Try.func35, Try.ntmps35
  go_wp2_with fail
  refine (take41 base p N low mo mh tg fv Lof fr tk Lh grp v _ (hal.alloc _) hlow hfr hgr hN hfl hgl hkey).mono ?_
  rintro e w1 ⟨rfl, low', h1, h2, h3⟩
  go_wp2_with fail
  go_ret2
  exact ⟨rfl, low', h1, h2, (Frame2.of_below ((Below.refl _ _).alloc (Nat.le_refl _) _)).trans h3⟩

set_option maxHeartbeats 400000 in
theorem new18 (hw mu ma : Nat) (Lu La : SL) (w : World) (hh : hw ≤ 65536) (hu : MapL w Try.prog 42 mu ekN evV Lu) (ha : MapL w Try.prog 42 ma ekN evV La) (hk : ∀ p ∈ Lu, p.1 ≤ 65536)
    (hvu : ∀ i, ∃ l, keyOf Try.prog 57 (evV (valA Lu i)) = some l) (hva : ∀ i, ∃ l, keyOf Try.prog 57 (evV (valA La i)) = some l) :
    Calls Try.prog 18 #[.int .i64 hw, .map (some mu), .map (some ma)] w fun e w' => ∃ p N mo mh tg fv Lh, e = .returned (.pointer (some ⟨p, 0, none⟩)) ∧ IsNext hw Lu N ∧
      AllocAt w' w.heap.size p N 0 mo mh tg fv (ofK Lu N) (freeK Lu N) (fun _ => false) Lh (grpK Lu La N) ∧ Below w.heap.size w w' := by
  go_enter Try.func18, Try.ntmps18
  go_wp2_with fail
  refine (new40 hw mu ma Lu La _ hh hu ha hk hvu hva).mono ?_
  rintro e w1 ⟨p, N, mo, mh, tg, fv, Lh, rfl, h1, h2, h3⟩
  go_wp2_with fail
  go_ret
  exact ⟨p, N, mo, mh, tg, fv, Lh, rfl, h1, h2, h3⟩

/-! ### what the lists hold -/
theorem mem_freeK (Lu : SL) (N a : Nat) : a ∈ freeK Lu N ↔ a < N ∧ hasA Lu a = false := by
  induction N with
  | zero => simp [freeK]
  | succ k ih =>
    unfold freeK
    cases h : hasA Lu k with
    | true =>
      simp only [if_true]
      rw [ih]
      constructor
      · exact fun ⟨h1, h2⟩ => ⟨by omega, h2⟩
      · rintro ⟨h1, h2⟩
        refine ⟨?_, h2⟩
        by_cases e : a = k
        · subst e; rw [h] at h2; cases h2
        · omega
    | false =>
      simp only [Bool.false_eq_true, if_false, List.mem_append, List.mem_singleton]
      rw [ih]
      constructor
      · rintro (⟨h1, h2⟩ | rfl)
        · exact ⟨by omega, h2⟩
        · exact ⟨by omega, h⟩
      · rintro ⟨h1, h2⟩
        by_cases e : a = k
        · exact .inr e
        · exact .inl ⟨by omega, h2⟩
/-- the free slots that the arena says hold v, ascending -/
def heldK (Lu La : SL) (v : Verd) : Nat → List Nat
  | 0 => []
  | k + 1 => if hasA Lu k then heldK Lu La v k else if hasA La k then (if v = valA La k then heldK Lu La v k ++ [k] else heldK Lu La v k) else heldK Lu La v k
theorem grp_held (Lu La : SL) (v : Verd) (N : Nat) : (aget (grpK Lu La N) v).getD [] = heldK Lu La v N := by
  induction N with
  | zero => simp [grpK, heldK, aget]
  | succ k ih =>
    unfold grpK heldK
    split
    · exact ih
    · split
      · rw [aget_aput]
        split
        · rename_i e
          rw [← e, ih]
          rfl
        · exact ih
      · exact ih
theorem mem_heldK (Lu La : SL) (v : Verd) (N a : Nat) : a ∈ heldK Lu La v N ↔ a < N ∧ hasA Lu a = false ∧ hasA La a = true ∧ valA La a = v := by
  induction N with
  | zero => simp [heldK]
  | succ k ih =>
    have key : (a ∈ heldK Lu La v (k + 1)) ↔ (a ∈ heldK Lu La v k ∨ (a = k ∧ hasA Lu k = false ∧ hasA La k = true ∧ valA La k = v)) := by
      have e : heldK Lu La v (k + 1) = if hasA Lu k then heldK Lu La v k else if hasA La k then (if v = valA La k then heldK Lu La v k ++ [k] else heldK Lu La v k) else heldK Lu La v k := rfl
      rw [e]
      by_cases h3 : v = valA La k
      · cases h1 : hasA Lu k <;> cases h2 : hasA La k <;> simp [h3]
      · have h3' : ¬ valA La k = v := fun h => h3 h.symm
        cases h1 : hasA Lu k <;> cases h2 : hasA La k <;> simp [h3, h3']
    rw [key, ih]
    constructor
    · rintro (⟨h1, h2⟩ | ⟨rfl, h2⟩)
      · exact ⟨by omega, h2⟩
      · exact ⟨by omega, h2⟩
    · rintro ⟨h1, h2⟩
      by_cases e : a = k
      · subst e; exact .inr ⟨rfl, h2⟩
      · exact .inl ⟨by omega, h2⟩
end Go.Proofs.Qxb6602988a
