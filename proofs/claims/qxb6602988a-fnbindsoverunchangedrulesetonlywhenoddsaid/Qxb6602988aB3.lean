import Derived.Test.Qxb6602988aB2
import Derived.LaidEqlPtr
namespace Go.Proofs.Qxb6602988a
open Go.RowKit
set_option linter.unusedVariables false
set_option linter.unusedSimpArgs false

set_option maxHeartbeats 400000 in
theorem profile11 (m : Option Nat) (s : ByteArray) (o : Bool) (w : World) :
    Calls Try.prog 11 #[.map m, .string s, .bool o] w fun e w' => e = .returned (.pointer (some ⟨w.heap.size, 0, none⟩)) ∧ w' = w.alloc (.cells #[.map m, .string s, .bool o] 78) := by
  go_enter Try.func11, Try.ntmps11
  go_wp2
  go_ret
  exact ⟨rfl, rfl⟩

theorem below_drewN' {B : Nat} {a w : World} (h : Below B a w) (n : Nat) : Below B a (w.drewN n) := ⟨h.os, h.tape, h.output, h.size, h.block⟩
/-- what of answers -/
def ofL (L : List (Int × ByteArray)) (id : Int) : ByteArray := if id = 0 then ByteArray.empty else (aget L id).getD ByteArray.empty

/-- a profile that lies at block p: its map at block m -/
structure ProfAt (w : World) (p m : Nat) (L : List (Int × ByteArray)) (any : ByteArray) (odd : Bool) : Prop where
  blk : w.heap[p]? = some (.cells #[.map (some m), .string any, .bool odd] 78 (0, 0))
  map : MapL w Try.prog 42 m ekU evS L
section
variable {w w' : World} {p m : Nat} {L : List (Int × ByteArray)} {any : ByteArray} {odd : Bool}
theorem ProfAt.of_blocks (h : ProfAt w p m L any odd) (hp : w'.heap[p]? = w.heap[p]?) (hm : w'.heap[m]? = w.heap[m]?) : ProfAt w' p m L any odd := ⟨hp.trans h.blk, h.map.of_block hm⟩
theorem ProfAt.c0 (h : ProfAt w p m L any odd) : w.cell? ⟨p, 0, none⟩ = some (.map (some m)) := by simp [World.cell?, h.blk]
theorem ProfAt.c1 (h : ProfAt w p m L any odd) : w.cell? ⟨p, 1, none⟩ = some (.string any) := by simp [World.cell?, h.blk]
theorem ProfAt.c2 (h : ProfAt w p m L any odd) : w.cell? ⟨p, 2, none⟩ = some (.bool odd) := by simp [World.cell?, h.blk]
theorem ProfAt.lt (h : ProfAt w p m L any odd) : p < w.heap.size := (Array.getElem?_eq_some_iff.1 h.blk).1
theorem ProfAt.drewN (h : ProfAt w p m L any odd) (q : Nat) : ProfAt (w.drewN q) p m L any odd := h.of_blocks rfl rfl
theorem ProfAt.drew (h : ProfAt w p m L any odd) : ProfAt w.drew p m L any odd := h.of_blocks rfl rfl
theorem ProfAt.below {B : Nat} (h : ProfAt w p m L any odd) (hb : Below B w w') (hp : p < B) (hm : m < B) : ProfAt w' p m L any odd := h.of_blocks (hb.block p hp) (hb.block m hm)
theorem ProfAt.alloc (h : ProfAt w p m L any odd) (o : Obj) : ProfAt (w.alloc o) p m L any odd := h.of_blocks (Below.heap_alloc _ _ _ h.lt) (Below.heap_alloc _ _ _ h.map.lt)
end
theorem Try.info78 : (Try.prog.info? 78).map (fun i => i.size) = some 3 := by kernel_rfl
theorem ptrne {p q m1 m2 : Nat} (hpq : p ≠ q) {L1 L2 : List (Int × ByteArray)} {any1 any2 : ByteArray} {o1 o2 : Bool} {w : World} (h1 : ProfAt w p m1 L1 any1 o1) (h2 : ProfAt w q m2 L2 any2 o2) :
    (binOp BinOp.eql 27 (.pointer (some ⟨p, 0, none⟩)) (.pointer (some ⟨q, 0, none⟩))).run Try.prog w = .ok (.bool false) w := by
  obtain ⟨i, hi, hz⟩ := Option.map_eq_some_iff.1 Try.info78
  exact run_eql_ptr_other w Try.underlying27 hi (by omega) (by simp [hpq]) h1.blk h2.blk

set_option maxHeartbeats 400000 in
theorem of42 (p m : Nat) (L : List (Int × ByteArray)) (any : ByteArray) (odd : Bool) (id : Int) (w : World) (hid : (Lit.int .u32 id).wf = true) (hp : ProfAt w p m L any odd) :
    Calls Try.prog 42 #[.pointer (some ⟨p, 0, none⟩), .int .u32 id] w fun e w' => e = .returned (.string (ofL L id)) ∧ w' = w := by
  by_cases h0 : id = 0
  · subst h0
    go_enter Try.func42, Try.ntmps42
    go_wp2
    go_ret
    exact ⟨rfl, rfl⟩
  · have hb : (id == 0) = false := by simpa using h0
    have hr := hp.map.lookup law42 ekU_inj Try.underlying29 (z := ByteArray.empty) (zero9 w) (key42 hid) false
    have hc := hp.c0
    unfold ekU evS at hr
    have e : ofL L id = (aget L id).getD ByteArray.empty := by simp [ofL, h0]
    rw [e]
    generalize (aget L id).getD ByteArray.empty = s at hr ⊢
    simp only [Bool.false_eq_true, if_false] at hr
    clear h0 e hid
    go_enter Try.func42, Try.ntmps42
    go_wp2
    go_ret
    exact ⟨rfl, rfl⟩

set_option maxHeartbeats 400000 in
theorem binds_none (p q : Nat) (c : Nat) (a : Option Addr) (w : World) :
    Calls Try.prog 39 #[.pointer (some ⟨p, 0, none⟩), .pointer (some ⟨q, 0, none⟩), .slice a 0 c] w fun e w' => e = .returned (.bool false) ∧ w' = w := by
  go_enter Try.func39, Try.ntmps39
  go_wp2
  go_ret
  exact ⟨rfl, rfl⟩

set_option maxHeartbeats 400000 in
theorem binds_odd (p q : Nat) (hpq : p ≠ q) (n : Nat) (hn : 0 < n) (c : Nat) (a : Option Addr) (m1 m2 : Nat) (L : List (Int × ByteArray)) (any : ByteArray) (w : World)
    (h1 : ProfAt w p m1 L any true) (h2 : ProfAt w q m2 L any true) :
    Calls Try.prog 39 #[.pointer (some ⟨p, 0, none⟩), .pointer (some ⟨q, 0, none⟩), .slice a n c] w fun e w' => e = .returned (.bool true) ∧ w' = w := by
  have hne := ptrne hpq h1 h2
  have hc := h1.c2
  have hb : ((n : Int) == 0) = false := by simp; omega
  go_enter Try.func39, Try.ntmps39
  go_wp2
  go_ret
  exact ⟨rfl, rfl⟩

set_option maxHeartbeats 400000 in
theorem binds_even (p q : Nat) (hpq : p ≠ q) (n : Nat) (hn : 0 < n) (hn2 : n ≤ 65536) (c : Nat) (g : Nat) (F T : Nat → Int) (m1 m2 : Nat) (L : List (Int × ByteArray)) (any : ByteArray) (w : World)
    (h1 : ProfAt w p m1 L any false) (h2 : ProfAt w q m2 L any false) (hrow : RowB w g 80 (n * 2) (fun j => .int .u32 (if j % 2 = 0 then F (j / 2) else T (j / 2))))
    (hF : ∀ i, i < n → (Lit.int .u32 (F i)).wf = true) (hT : ∀ i, i < n → (Lit.int .u32 (T i)).wf = true) :
    Calls Try.prog 39 #[.pointer (some ⟨p, 0, none⟩), .pointer (some ⟨q, 0, none⟩), .slice (some ⟨g, 0, none⟩) n c] w fun e w' => e = .returned (.bool false) ∧ Below w.heap.size w w' := by
  have hne := ptrne hpq h1 h2
  have hc1 := h1.c2
  have hc2 := h2.c2
  have hb : ((n : Int) == 0) = false := by simp; omega
  go_enter Try.func39, Try.ntmps39
  go_wp2
  clear hc1 hc2 hne hb
  go_loopw [30] (fun i wr => ∃ k : Nat, k ≤ n ∧ i = .int .i64 k ∧ Below w.heap.size w wr) (fun i _ => n - (intOf i).toNat)
  case atStart => exact ⟨0, Nat.zero_le _, rfl, Below.refl _ _⟩
  case round =>
    obtain ⟨k, hk, rfl, hnx⟩ := hrel
    by_cases hlt : k < n
    · have r0 := (hrow.below hnx hrow.lt).cell (i := k * 2) (by omega)
      have r1 := (hrow.below hnx hrow.lt).cell (i := k * 2 + 1) (by omega)
      have e0 : (k * 2) % 2 = 0 := by omega
      have e1 : ¬ (k * 2 + 1) % 2 = 0 := by omega
      simp only [e0, e1, if_true, if_false, show k * 2 / 2 = k by omega, show (k * 2 + 1) / 2 = k by omega] at r0 r1
      clear e0 e1
      have hp1 := (h1.below hnx h1.lt h1.map.lt).alloc (.cells #[.int .u32 (F k), .int .u32 (T k)] 80)
      have hq1 := (h2.below hnx h2.lt h2.map.lt).alloc (.cells #[.int .u32 (F k), .int .u32 (T k)] 80)
      go_wp2_with fail
      refine (of42 q m2 L any false (F k) _ (hF k hlt) hq1).mono ?_
      rintro e w' ⟨rfl, rfl⟩
      have c1 := hp1.c1
      have c2 := hq1.c1
      by_cases hs : ofL L (F k) = ofL L (T k)
      · have hd : ((ofL L (F k)).toList == (ofL L (T k)).toList) = true := by simp [hs]
        clear hs
        go_wp2_with fail
        go_quiet ((go_at_call 42; refine Calls.quiet_of_same (of42 q m2 L any false (T k) _ (hT k hlt) (hq1.drewN _))))
        go_wp2_with fail
        go_roundw
        case rel => exact ⟨k + 1, by omega, by go_num, below_drewN' (hnx.alloc hnx.size _) _⟩
        case measure => simp [intOf]; omega
      · have hd : ((ofL L (F k)).toList == (ofL L (T k)).toList) = false := by
          rw [← beq_toListBytes]
          cases hb : (ofL L (F k) == ofL L (T k)) with
          | false => rfl
          | true => exact absurd ((MapKept.bytes_beq _ _).1 hb) hs
        clear hs
        go_wp2_with fail
        go_quiet ((first
          | (go_at_call_of 42 (Value.pointer (some ⟨q, 0, none⟩)); refine Calls.quiet_of_same (of42 q m2 L any false (T k) _ (hT k hlt) (hq1.drewN _)))
          | (go_at_call_of 42 (Value.pointer (some ⟨p, 0, none⟩)); refine Calls.quiet_of_same (of42 p m1 L any false (F k) _ (hF k hlt) (hp1.drewN _)))))
        go_wp2_with fail
        go_roundw
        case rel => exact ⟨k + 1, by omega, by go_num, below_drewN' (hnx.alloc hnx.size _) _⟩
        case measure => simp [intOf]; omega
    · go_wp2
      go_ret
      exact ⟨rfl, hnx⟩

theorem hide {p : Prop} (h : p) : Hid p := h
/-- what ZZBinds answers over two profiles of one content -/
theorem zzbinds14 (p q : Nat) (t : Bool) (s : Value) (w : World) (R : World → Prop) (hs : ∃ a n c, s = .slice a n c)
    (h : Calls Try.prog 39 #[.pointer (some ⟨p, 0, none⟩), .pointer (some ⟨q, 0, none⟩), s] w fun e w' => e = .returned (.bool t) ∧ R w') :
    Calls Try.prog 14 #[.pointer (some ⟨p, 0, none⟩), .pointer (some ⟨q, 0, none⟩), s] w fun e w' => e = .returned (.bool t) ∧ R w' := by
  obtain ⟨a, n, c, rfl⟩ := hs
  have H := hide h
  clear h
  go_enter Try.func14, Try.ntmps14
  go_wp2_with fail
  refine H.out.mono ?_
  rintro e w' ⟨rfl, hR⟩
  go_wp2_with fail
  go_ret
  exact ⟨rfl, hR⟩
end Go.Proofs.Qxb6602988a
