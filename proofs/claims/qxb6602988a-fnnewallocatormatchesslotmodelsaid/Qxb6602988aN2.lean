import Derived.Test.Qxb6602988aA8
namespace Go.Proofs.Qxb6602988a
open Go.RowKit Go.WideShapes Go.ChangeShapes
set_option linter.unusedVariables false
set_option linter.unusedSimpArgs false

theorem Below.drewN' {B : Nat} {w w' : World} (h : Below B w w') (n : Nat) : Below B w (w'.drewN n) := ⟨h.os, h.tape, h.output, h.size, h.block⟩
section
variable {w : World} {base p N low mo mh tg : Nat} {fv : Value} {Lof : List (Verd × Nat)} {fr : List Nat} {tk : Nat → Bool} {Lh : List (Verd × Option (Nat × Nat × Nat))} {grp : List (Verd × List Nat)}
theorem next21 (h : AllocAt w base p N low mo mh tg fv Lof fr tk Lh grp) : Calls Try.prog 21 #[.pointer (some ⟨p, 0, none⟩)] w fun e w' => e = .returned (.int .u32 N) ∧ w' = w := by
  have c := h.blk.cell (i := 5) (by omega)
  have c' : w.cell? ⟨p, 5, none⟩ = some (.int .u32 N) := c
  clear c
  go_enter Try.func21, Try.ntmps21
  go_wp2
  go_ret
  exact ⟨rfl, rfl⟩
theorem low22 (h : AllocAt w base p N low mo mh tg fv Lof fr tk Lh grp) : Calls Try.prog 22 #[.pointer (some ⟨p, 0, none⟩)] w fun e w' => e = .returned (.int .i64 low) ∧ w' = w := by
  have c' : w.cell? ⟨p, 3, none⟩ = some (.int .i64 low) := h.blk.cell (i := 3) (by omega)
  go_enter Try.func22, Try.ntmps22
  go_wp2
  go_ret
  exact ⟨rfl, rfl⟩
theorem taken23 (h : AllocAt w base p N low mo mh tg fv Lof fr tk Lh grp) : Calls Try.prog 23 #[.pointer (some ⟨p, 0, none⟩)] w fun e w' => e = .returned (.slice (some ⟨tg, 0, none⟩) N N) ∧ w' = w := by
  have c' : w.cell? ⟨p, 2, none⟩ = some (.slice (some ⟨tg, 0, none⟩) N N) := h.blk.cell (i := 2) (by omega)
  go_enter Try.func23, Try.ntmps23
  go_wp2
  go_ret
  exact ⟨rfl, rfl⟩
theorem free25 (h : AllocAt w base p N low mo mh tg fv Lof fr tk Lh grp) : Calls Try.prog 25 #[.pointer (some ⟨p, 0, none⟩)] w fun e w' => e = .returned fv ∧ w' = w := by
  obtain ⟨fa, fc, rfl⟩ := ownsRow_form h.free
  have c' : w.cell? ⟨p, 1, none⟩ = some (.slice fa fr.length fc) := h.blk.cell (i := 1) (by omega)
  go_enter Try.func25, Try.ntmps25
  go_wp2
  go_ret
  exact ⟨rfl, rfl⟩
theorem oflen27 (h : AllocAt w base p N low mo mh tg fv Lof fr tk Lh grp) : Calls Try.prog 27 #[.pointer (some ⟨p, 0, none⟩)] w fun e w' => e = .returned (.int .i64 Lof.length) ∧ w' = w := by
  have c' : w.cell? ⟨p, 0, none⟩ = some (.map (some mo)) := h.blk.cell (i := 0) (by omega)
  have hlen := fun ty => h.of.len Try.underlying82 ty
  go_enter Try.func27, Try.ntmps27
  go_wp2
  go_ret
  exact ⟨rfl, rfl⟩
theorem hlen28 (h : AllocAt w base p N low mo mh tg fv Lof fr tk Lh grp) : Calls Try.prog 28 #[.pointer (some ⟨p, 0, none⟩)] w fun e w' => e = .returned (.int .i64 grp.length) ∧ w' = w := by
  have c' : w.cell? ⟨p, 4, none⟩ = some (.map (some mh)) := h.blk.cell (i := 4) (by omega)
  have hlen := fun ty => h.hold.len Try.underlying83 ty
  rw [show Lh.length = grp.length by have := congrArg List.length h.keys; simpa using this] at hlen
  go_enter Try.func28, Try.ntmps28
  go_wp2
  go_ret
  exact ⟨rfl, rfl⟩
theorem zero42 (w : World) : (zeroValue 42).run Try.prog w = .ok (ekN 0) w := by kernel_rfl
theorem of26 (h : AllocAt w base p N low mo mh tg fv Lof fr tk Lh grp) (v : Verd) (hkey : ∃ l, keyOf Try.prog 57 (evV v) = some l) :
    Calls Try.prog 26 #[.pointer (some ⟨p, 0, none⟩), .agg #[.int .u8 v.1, .int .u16 v.2]] w fun e w' => e = .returned (.tuple #[.int .u32 ((aget Lof v).getD 0 : Nat), .bool (aget Lof v).isSome]) ∧ Below w.heap.size w w' := by
  obtain ⟨l, hl⟩ := hkey
  have hal1 := h.alloc (.cells #[.int .u8 v.1, .int .u16 v.2] 57)
  have lk : ∀ nq, (Instr.lookup 82 (.map (some mo)) (.agg #[.int .u8 v.1, .int .u16 v.2]) true).run Try.prog ((w.alloc (.cells #[.int .u8 v.1, .int .u16 v.2] 57)).drewN nq) = .ok (.tuple #[.int .u32 ((aget Lof v).getD 0 : Nat), .bool (aget Lof v).isSome]) ((w.alloc (.cells #[.int .u8 v.1, .int .u16 v.2] 57)).drewN nq) := fun nq =>
    (hal1.drewN nq).of.lookup law57 evV_inj Try.underlying82 (zero42 _) hl true
  have c4 : (w.alloc (.cells #[.int .u8 v.1, .int .u16 v.2] 57)).cell? ⟨p, 0, none⟩ = some (.map (some mo)) := hal1.blk.cell (i := 0) (by omega)
  go_enter Try.func26, Try.ntmps26
  go_wp2
  go_quiet (fail)
  go_wp2
  go_ret2
  exact ⟨rfl, Below.drewN' ((Below.refl _ _).alloc (Nat.le_refl _) _) _⟩
theorem holding30 (h : AllocAt w base p N low mo mh tg fv Lof fr tk Lh grp) (v : Verd) (hkey : ∃ l, keyOf Try.prog 57 (evV v) = some l) :
    Calls Try.prog 30 #[.pointer (some ⟨p, 0, none⟩), .agg #[.int .u8 v.1, .int .u16 v.2]] w fun e w' => e = .returned (evH ((aget Lh v).getD none)) ∧ Below w.heap.size w w' := by
  obtain ⟨l, hl⟩ := hkey
  obtain ⟨ra, rc, hev, hrow⟩ := h.row_of v
  have hal1 := h.alloc (.cells #[.int .u8 v.1, .int .u16 v.2] 57)
  have lk : ∀ nq, (Instr.lookup 83 (.map (some mh)) (.agg #[.int .u8 v.1, .int .u16 v.2]) false).run Try.prog ((w.alloc (.cells #[.int .u8 v.1, .int .u16 v.2] 57)).drewN nq) = .ok (.slice ra ((aget grp v).getD []).length rc) ((w.alloc (.cells #[.int .u8 v.1, .int .u16 v.2] 57)).drewN nq) := fun nq => by
    have := (hal1.drewN nq).hold.lookup law57 evV_inj Try.underlying83 (zero51 _) hl false
    rw [hev] at this
    exact this
  have c4 : (w.alloc (.cells #[.int .u8 v.1, .int .u16 v.2] 57)).cell? ⟨p, 4, none⟩ = some (.map (some mh)) := hal1.blk.cell (i := 4) (by omega)
  rw [hev]
  go_enter Try.func30, Try.ntmps30
  go_wp2
  go_quiet (fail)
  go_wp2
  go_ret
  exact ⟨rfl, Below.drewN' ((Below.refl _ _).alloc (Nat.le_refl _) _) _⟩
end

/-- two rows of the same slots are the same -/
theorem same29 (xs : List Nat) (a b : Option Addr) (ca cb : Nat) (B1 B2 : Nat) (w : World) (h1 : w.ownsRow B1 42 1 (.slice a xs.length ca) xs.length (xs.map ekN)) (h2 : w.ownsRow B2 42 1 (.slice b xs.length cb) xs.length (xs.map ekN)) (hl : xs.length ≤ 1048576) :
    Calls Try.prog 29 #[.slice a xs.length ca, .slice b xs.length cb] w fun e w' => e = .returned (.bool true) ∧ Below w.heap.size w w' := by
  go_enter Try.func29, Try.ntmps29
  go_wp2
  go_loopg [13] xs.length (fun g i wr => ∃ k : Nat, k ≤ xs.length ∧ g = xs.length - k ∧ i = .int .i64 k ∧ Below w.heap.size w wr)
  case atStart => exact ⟨0, Nat.zero_le _, rfl, rfl, Below.refl _ _⟩
  case round =>
    obtain ⟨k, hk, hgk, rfl, hB⟩ := hrel
    have HG : Hid (gk = xs.length - k) := hgk
    clear hgk
    by_cases hlt : k < xs.length
    · obtain ⟨g1, rfl, c1⟩ := ownsRow_cell h1 hlt
      obtain ⟨g2, rfl, c2⟩ := ownsRow_cell h2 hlt
      have c1' := (hB.cell (p := ⟨g1, k, none⟩) ((h1.lt g1 rfl).2)).trans c1
      have c2' := (hB.cell (p := ⟨g2, k, none⟩) ((h2.lt g2 rfl).2)).trans c2
      clear c1 c2
      generalize xs.getD k 0 = x at *
      go_wp2
      go_quiet (fail)
      go_wp2
      go_roundg (xs.length - (k + 1))
      case measure => have := HG.out; omega
      case rel => exact ⟨k + 1, by omega, rfl, by go_num, Below.drewN' hB _⟩
    · go_wp2
      go_ret
      exact ⟨rfl, hB⟩
end Go.Proofs.Qxb6602988a
