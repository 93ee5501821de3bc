import Derived.Test.Qxb6602988aA3b
import Derived.Deep.LoopGhost
namespace Go.Proofs.Qxb6602988a
open Go.RowKit
set_option linter.unusedVariables false
set_option linter.unusedSimpArgs false

/-- an append whose run is known, at the operation -/
theorem wpList_append_run {P : Program} {w w' : World} {ops : Array Oper} {rest : List Oper} {o : Oper} {a : Act} {Q : Exit → Act → World → Prop} {t ty : TypeId} {v x' r : Value}
    (hr : (Builtin.append_ #[t, t] ty #[v, x']).run P w = .ok r w') (hg : o.guard = none) (s x : Operand) (hop : o.op = .call { callee := .builtin .append, args := #[s, x], argTypes := #[t, t] }) (hty : o.type = ty)
    (hs : a.eval s = v) (hx : a.eval x = x') (hK : wpList P ops Q rest (a.put o.dst r) w') : wpList P ops Q (o :: rest) a w := by
  refine wpList_plain hg fun K hK' => ?_
  subst hty
  unfold Oper.wp execOp
  simp only [hop, resolve, invoke, builtin, Sem.run_bind, Sem.run_pure, Result.andThen_ok, List.map_toArray, List.map_cons, List.map_nil, hs, hx, hr]
  exact hK' _ _ hK
theorem step_append_run {P : Program} {w w' : World} {ops : Array Oper} {o : Oper} {a : Act} {K : Act → World → Prop} {Q : Exit → Act → World → Prop} {E : Prop} {t ty : TypeId} {v x' r : Value}
    (hr : (Builtin.append_ #[t, t] ty #[v, x']).run P w = .ok r w') (hg : o.guard = none) (s x : Operand) (hop : o.op = .call { callee := .builtin .append, args := #[s, x], argTypes := #[t, t] }) (hty : o.type = ty)
    (hs : a.eval s = v) (hx : a.eval x = x') (hK : K (a.put o.dst r) w') : if Region.wanted o (yielded ops a.tmps) = true then Oper.wp P o a w K Q else E := by
  have hw : Region.wanted o (yielded ops a.tmps) = true := by simp [Region.wanted, hg]
  rw [if_pos hw]
  subst hty
  unfold Oper.wp execOp
  simp only [hop, resolve, invoke, builtin, Sem.run_bind, Sem.run_pure, Result.andThen_ok, List.map_toArray, List.map_cons, List.map_nil, hs, hx, hr]
  exact hK
abbrev SL := List (Nat × (Int × Int))
def freeK (Lu : SL) : Nat → List Nat
  | 0 => []
  | k + 1 => if hasA Lu k then freeK Lu k else freeK Lu k ++ [k]
theorem freeK_length (Lu : SL) (k : Nat) : (freeK Lu k).length ≤ k := by
  induction k with
  | zero => simp [freeK]
  | succ k ih =>
    unfold freeK
    split
    · omega
    · simp; omega
def ofK (Lu : SL) : Nat → List (Verd × Nat)
  | 0 => []
  | k + 1 => if hasA Lu k then aput (ofK Lu k) (valA Lu k) k else ofK Lu k
def grpK (Lu La : SL) : Nat → List (Verd × List Nat)
  | 0 => []
  | k + 1 => if hasA Lu k then grpK Lu La k else if hasA La k then aput (grpK Lu La k) (valA La k) ((aget (grpK Lu La k) (valA La k)).getD [] ++ [k]) else grpK Lu La k

theorem grpK_length (Lu La : SL) (k : Nat) (v : Verd) : ((aget (grpK Lu La k) v).getD []).length ≤ k := by
  induction k with
  | zero => simp [grpK, aget]
  | succ k ih =>
    unfold grpK
    split
    · omega
    · split
      · rw [aget_aput]
        split
        · rename_i e
          rw [← e]
          simp
          exact ih
        · omega
      · omega
theorem make82 (w : World) (n : Int) : (Instr.makeMap 82 (some (.int .i64 n))).run Try.prog w = .ok (.map (some w.heap.size)) (w.alloc (.map #[] 0)) := by kernel_rfl
theorem make83 (w : World) : (Instr.makeMap 83 none).run Try.prog w = .ok (.map (some w.heap.size)) (w.alloc (.map #[] 0)) := by kernel_rfl

theorem filter_len_le {α : Type} (f g : α → Bool) (h : ∀ x, f x = true → g x = true) (l : List α) : (l.filter f).length ≤ (l.filter g).length := by
  induction l with
  | nil => simp
  | cons x r ih =>
    rw [List.filter_cons, List.filter_cons]
    cases hf : f x with
    | true => rw [h x hf]; simp; exact ih
    | false => cases hg : g x <;> simp <;> omega
theorem filter_len_lt {α : Type} (f g : α → Bool) (h : ∀ x, f x = true → g x = true) (q : α) (hf : f q = false) (hg : g q = true) (l : List α) (hq : q ∈ l) : (l.filter f).length < (l.filter g).length := by
  induction l with
  | nil => cases hq
  | cons x r ih =>
    have hle := filter_len_le f g h r
    rw [List.filter_cons, List.filter_cons]
    rcases List.mem_cons.1 hq with rfl | hq
    · rw [hf, hg]; simp; omega
    · have := ih hq
      cases hfx : f x with
      | true => rw [h x hfx]; simp; exact this
      | false => cases hgx : g x <;> simp <;> omega
theorem unvis_lt (Lu : SL) (vis : Nat → Bool) (q : Nat × (Int × Int)) (hq : q ∈ Lu) (hv : vis q.1 = false) :
    (Lu.filter (fun p => !(decide (p.1 = q.1) || vis p.1))).length < (Lu.filter (fun p => !vis p.1)).length :=
  filter_len_lt _ _ (fun x hx => by simp at hx; simp [hx.2]) q (by simp) (by simp [hv]) Lu hq
/-- what N is of hw and the used slots -/
def IsNext (hw : Nat) (Lu : SL) (N : Nat) : Prop := hw ≤ N ∧ (∀ p ∈ Lu, p.1 + 1 ≤ N) ∧ (N = hw ∨ ∃ p ∈ Lu, N = p.1 + 1)

set_option maxHeartbeats 1000000 in
theorem new40 (hw mu ma : Nat) (Lu La : SL) (w : World) (hh : hw ≤ 65536) (hu : MapL w Try.prog 42 mu ekN evV Lu) (ha : MapL w Try.prog 42 ma ekN evV La) (hk : ∀ p ∈ Lu, p.1 ≤ 65536)
    (hvu : ∀ i, ∃ l, keyOf Try.prog 57 (evV (valA Lu i)) = some l) (hva : ∀ i, ∃ l, keyOf Try.prog 57 (evV (valA La i)) = some l) :
    Calls Try.prog 40 #[.int .i64 hw, .map (some mu), .map (some ma)] w fun e w' => ∃ p N mo mh tg fv Lh, e = .returned (.pointer (some ⟨p, 0, none⟩)) ∧ IsNext hw Lu N ∧
      AllocAt w' w.heap.size p N 0 mo mh tg fv (ofK Lu N) (freeK Lu N) (fun _ => false) Lh (grpK Lu La N) ∧ Below w.heap.size w w' := by
  have hlen := fun ty => hu.len Try.underlying40 ty
  have m1 := make82
  have m2 := make83
  have hu0 := ((hu.alloc (.map #[] 0)).alloc (.map #[] 0)).alloc (.cells #[.map (some w.heap.size), .slice none 0 0, .slice none 0 0, .int .i64 0, .map (some (w.heap.size + 1)), .int .u32 hw] 85)
  obtain ⟨o, hrng, hR⟩ := hu0.range Try.underlying40
  have sz : ∀ (W : World) (o : Obj), (W.alloc o).heap.size = W.heap.size + 1 := fun W o => by simp
  simp only [sz] at hrng hR
  have hB0 : Below w.heap.size w ((((w.alloc (.map #[] 0)).alloc (.map #[] 0)).alloc (.cells #[.map (some w.heap.size), .slice none 0 0, .slice none 0 0, .int .i64 0, .map (some (w.heap.size + 1)), .int .u32 hw] 85)).alloc o) :=
    ((((Below.refl _ _).alloc (Nat.le_refl _) _).alloc (by simp) _).alloc (by simp; omega) _).alloc (by simp; omega) _
  have hmo0 : MapL ((((w.alloc (.map #[] 0)).alloc (.map #[] 0)).alloc (.cells #[.map (some w.heap.size), .slice none 0 0, .slice none 0 0, .int .i64 0, .map (some (w.heap.size + 1)), .int .u32 hw] 85)).alloc o) Try.prog 57 w.heap.size evV ekN [] := (((MapL_made w _ _ _ _).alloc _).alloc _).alloc _
  have hmh0 : MapL ((((w.alloc (.map #[] 0)).alloc (.map #[] 0)).alloc (.cells #[.map (some w.heap.size), .slice none 0 0, .slice none 0 0, .int .i64 0, .map (some (w.heap.size + 1)), .int .u32 hw] 85)).alloc o) Try.prog 57 (w.heap.size + 1) evV evH [] := by
    have := ((MapL_made (w.alloc (.map #[] 0)) Try.prog 57 evV evH).alloc (.cells #[.map (some w.heap.size), .slice none 0 0, .slice none 0 0, .int .i64 0, .map (some (w.heap.size + 1)), .int .u32 hw] 85)).alloc o
    simp only [sz] at this
    exact this
  have hblk0 : RowB ((((w.alloc (.map #[] 0)).alloc (.map #[] 0)).alloc (.cells #[.map (some w.heap.size), .slice none 0 0, .slice none 0 0, .int .i64 0, .map (some (w.heap.size + 1)), .int .u32 hw] 85)).alloc o) (w.heap.size + 1 + 1) 85 6 (acells (.map (some w.heap.size)) (.slice none 0 0) (.slice none 0 0) (.int .i64 0) (.map (some (w.heap.size + 1))) (.int .u32 hw)) := by
    refine RowB.alloc ?_ _
    refine ⟨_, by have := (MapKept.heap_alloc ((w.alloc (.map #[] 0)).alloc (.map #[] 0)) (.cells #[.map (some w.heap.size), .slice none 0 0, .slice none 0 0, .int .i64 0, .map (some (w.heap.size + 1)), .int .u32 hw] 85)).1; simp only [sz] at this; exact this, rfl, fun i hi => ?_⟩
    match i, hi with
    | 0, _ => rfl
    | 1, _ => rfl
    | 2, _ => rfl
    | 3, _ => rfl
    | 4, _ => rfl
    | 5, _ => rfl
  go_enter Try.func40, Try.ntmps40
  go_wp2
  clear hlen m1 m2 hrng hu0
  generalize ((((w.alloc (.map #[] 0)).alloc (.map #[] 0)).alloc (.cells #[.map (some w.heap.size), .slice none 0 0, .slice none 0 0, .int .i64 0, .map (some (w.heap.size + 1)), .int .u32 hw] 85)).alloc o) = W0 at *
  go_loopg [8] Lu.length (fun k _ wr => ∃ (vis : Nat → Bool) (m : Nat), (Lu.filter (fun p => !vis p.1)).length ≤ k ∧ RangeL wr Try.prog 42 (w.heap.size + 1 + 1 + 1) mu ekN evV Lu vis ∧
    MapL wr Try.prog 57 w.heap.size evV ekN ([] : List (Verd × Nat)) ∧ MapL wr Try.prog 57 (w.heap.size + 1) evV evH ([] : List (Verd × Option (Nat × Nat × Nat))) ∧
    RowB wr (w.heap.size + 1 + 1) 85 6 (acells (.map (some w.heap.size)) (.slice none 0 0) (.slice none 0 0) (.int .i64 0) (.map (some (w.heap.size + 1))) (.int .u32 m)) ∧
    Below w.heap.size w wr ∧ m ≤ 65537 ∧ Aside (hw ≤ m ∧ (∀ p ∈ Lu, vis p.1 = true → p.1 + 1 ≤ m) ∧ (m = hw ∨ ∃ p ∈ Lu, m = p.1 + 1)))
  case atStart => exact ⟨fun _ => false, hw, List.length_filter_le _ _, hR, hmo0, hmh0, hblk0, hB0, by omega, Nat.le_refl _, fun p hp h => by simp at h, .inl rfl⟩
  case round =>
    clear hR hmo0 hmh0 hblk0 hB0
    obtain ⟨vis, m, hcnt, hR, hmo, hmh, hblk, hnx, hm, hA⟩ := hrel
    rcases hR.next 0 with ⟨hall, hrun⟩ | ⟨q, hq, hvq, w1, hrun, hen, hR1, hbut⟩
    · have c5 : wr.cell? ⟨w.heap.size + 1 + 1, 5, none⟩ = some (.int .u32 m) := hblk.cell (i := 5) (by omega)
      have c2 : wr.cell? ⟨w.heap.size + 1 + 1, 2, none⟩ = some (.slice none 0 0) := hblk.cell (i := 2) (by omega)
      have f2 := hblk.frozen 2
      have mk := make46 m (by omega)
      have hBw : w.heap.size + 1 + 1 < wr.heap.size := hblk.lt
      go_wp2
      have hal : AllocAt ((wr.setCell ⟨w.heap.size + 1 + 1, 2, none⟩ (.slice (some ⟨wr.heap.size, 0, none⟩) m m)).alloc (.cells (rowOf m (fun _ => .bool false)) 4)) w.heap.size (w.heap.size + 1 + 1) m 0 w.heap.size (w.heap.size + 1) wr.heap.size (.slice none 0 0) (ofK Lu 0) (freeK Lu 0) (fun _ => false) [] (grpK Lu La 0) := by
        have hmoB : w.heap.size ≠ w.heap.size + 1 + 1 := by omega
        have hmhB : w.heap.size + 1 ≠ w.heap.size + 1 + 1 := by omega
        have hT := rowB_new (wr.setCell ⟨w.heap.size + 1 + 1, 2, none⟩ (.slice (some ⟨wr.heap.size, 0, none⟩) m m)) 4 m (fun _ => .bool false)
        rw [show (wr.setCell ⟨w.heap.size + 1 + 1, 2, none⟩ (.slice (some ⟨wr.heap.size, 0, none⟩) m m)).heap.size = wr.heap.size from by simp [World.setCell]] at hT
        refine ⟨((hblk.setCell (i := 2) _).congr (fun j hj => ?_)).alloc _, (hmo.setCell _ _ hmoB).alloc _, World.ownsRow_nil _ _ _ _, hT, (hmh.setCell _ _ hmhB).alloc _, rfl, fun v h hv => by simp [aget] at hv, fun v v' h h' hv => by simp [aget] at hv, fun v h hv => by simp [aget] at hv, by omega, by omega, by omega, by omega, by omega⟩
        match j, hj with
        | 0, _ => rfl
        | 1, _ => rfl
        | 2, _ => rfl
        | 3, _ => rfl
        | 4, _ => rfl
        | 5, _ => rfl
      have hnx1 : Below w.heap.size w ((wr.setCell ⟨w.heap.size + 1 + 1, 2, none⟩ (.slice (some ⟨wr.heap.size, 0, none⟩) m m)).alloc (.cells (rowOf m (fun _ => .bool false)) 4)) := (hnx.setCell (by show w.heap.size ≤ w.heap.size + 1 + 1; omega) _).alloc (by simp [World.setCell]; exact hnx.size) _
      have hN : IsNext hw Lu m := ⟨hA.out.1, fun p hp => hA.out.2.1 p hp (hall p hp), hA.out.2.2⟩
      have HN : Hid (IsNext hw Lu m) := hN
      clear hN hA hall c5 c2 f2 mk hmo hmh hblk hR hrun
      generalize ((wr.setCell ⟨w.heap.size + 1 + 1, 2, none⟩ (.slice (some ⟨wr.heap.size, 0, none⟩) m m)).alloc (.cells (rowOf m (fun _ => .bool false)) 4)) = W1 at *
      generalize wr.heap.size = T at hal ⊢
      clear hBw hnx
      go_loopg [50] m (fun g i wr => ∃ (k : Nat) (fv : Value) (Lh : List (Verd × Option (Nat × Nat × Nat))), k ≤ m ∧ g = m - k ∧ i = .int .u32 k ∧ AllocAt wr w.heap.size (w.heap.size + 1 + 1) m 0 w.heap.size (w.heap.size + 1) T fv (ofK Lu k) (freeK Lu k) (fun _ => false) Lh (grpK Lu La k) ∧ Below w.heap.size w wr)
      case atStart => exact ⟨0, _, _, Nat.zero_le _, rfl, rfl, hal, hnx1⟩
      case round =>
        clear hal hnx1
        obtain ⟨k, fv, Lh, hkm, hgk, rfl, hal, hnx⟩ := hrel
        have HG : Hid (gk = m - k) := hgk
        clear hgk
        by_cases hlt : k < m
        · have hu1 := hu.below hnx hu.lt
          have ha1 := ha.below hnx ha.lt
          have lk := hu1.lookup law42' ekN_inj Try.underlying40 (zero57 _) (key42N (a := k) (by omega)) true
          unfold ekN evV at lk
          simp only [if_true] at lk
          rw [show (aget Lu k).isSome = hasA Lu k from rfl, show (aget Lu k).getD (0, 0) = valA Lu k from rfl] at lk
          cases hasu : hasA Lu k with
          | true =>
            rw [hasu] at lk
            obtain ⟨l, hl⟩ := hvu k
            have hal1 := (hal.alloc (.cells #[.int .u8 (valA Lu k).1, .int .u16 (valA Lu k).2] 57)).drew
            obtain ⟨w2, hup, hm2, ht2⟩ := hal1.of.update law57 evV_inj Try.underlying82 hl k
            have hal2 := hal1.of_put ht2 hm2
            have c0 : (wr.alloc (.cells #[.int .u8 (valA Lu k).1, .int .u16 (valA Lu k).2] 57)).cell? ⟨w.heap.size + 1 + 1, 0, none⟩ = some (.map (some w.heap.size)) := hal1.blk.cell (i := 0) (by omega)
            have c0' : w2.cell? ⟨w.heap.size + 1 + 1, 0, none⟩ = some (.map (some w.heap.size)) := hal2.blk.cell (i := 0) (by omega)
            unfold ekN evV at hup
            have hw2 : w2.heap[wr.heap.size]? = (wr.alloc (.cells #[.int .u8 (valA Lu k).1, .int .u16 (valA Lu k).2] 57)).heap[wr.heap.size]? := ht2.grown.block _ (by show wr.heap.size < (wr.alloc _).heap.size; simp) (by have := hal.of.lt; simp; omega)
            rw [(MapKept.heap_alloc wr _).1] at hw2
            have d0 : w2.cell? ⟨wr.heap.size, 0, none⟩ = some (.int .u8 (valA Lu k).1) := by simp [World.cell?, hw2]
            have d1 : w2.cell? ⟨wr.heap.size, 1, none⟩ = some (.int .u16 (valA Lu k).2) := by simp [World.cell?, hw2]
            go_wp2
            clear lk
            go_region_held3 (fun w' => w'.cell? ⟨w.heap.size + 1 + 1, 0, none⟩ = some (.map (some w.heap.size)) ∧ w'.cell? ⟨wr.heap.size, 0, none⟩ = some (.int .u8 (valA Lu k).1) ∧ w'.cell? ⟨wr.heap.size, 1, none⟩ = some (.int .u16 (valA Lu k).2)) (go_keep) (fail)
            go_wp2
            go_roundg (m - (k + 1))
            case measure => have := HG.out; omega
            case rel =>
              refine ⟨k + 1, fv, Lh, by omega, rfl, by go_num, ?_, (hnx.alloc hnx.size _).drew.grown ht2.grown (Nat.le_trans hnx.size (by simp)) (fun j hj => by cases hj; exact Nat.le_refl _)⟩
              simp only [ofK, freeK, grpK, hasu, if_true]
              exact hal2
          | false =>
            rw [hasu] at lk
            obtain ⟨fa, fc, rfl⟩ := ownsRow_form hal.free
            have hfl := freeK_length Lu k
            -- the append to free
            have halb := (hal.alloc (.cells #[.int .u8 (valA Lu k).1, .int .u16 (valA Lu k).2] 57)).alloc (.cells #[.int .u32 k] 42)
            have hcb : ((wr.alloc (.cells #[.int .u8 (valA Lu k).1, .int .u16 (valA Lu k).2] 57)).alloc (.cells #[.int .u32 k] 42)).cell? ⟨wr.heap.size + 1, 0, none⟩ = some (.int .u32 k) := by
              have := (MapKept.heap_alloc (wr.alloc (.cells #[.int .u8 (valA Lu k).1, .int .u16 (valA Lu k).2] 57)) (.cells #[.int .u32 k] 42)).1
              simp only [sz] at this
              unfold World.cell?
              rw [this]
              rfl
            obtain ⟨g, cap, w2, hap, p1, fz1, hal2, hb2⟩ := halb.free_step (by simp only [sz]; have := hnx.size; omega) hcb (by omega)
            have c1 : (wr.alloc (.cells #[.int .u8 (valA Lu k).1, .int .u16 (valA Lu k).2] 57)).cell? ⟨w.heap.size + 1 + 1, 1, none⟩ = some (.slice fa (freeK Lu k).length fc) := (hal.alloc (.cells #[.int .u8 (valA Lu k).1, .int .u16 (valA Lu k).2] 57)).blk.cell (i := 1) (by omega)
            have hnx2 : Below w.heap.size w (w2.setCell ⟨w.heap.size + 1 + 1, 1, none⟩ (.slice (some ⟨g, 0, none⟩) ((freeK Lu k).length + 1) cap)) := ((hnx.alloc hnx.size _).alloc (by simp only [sz]; have := hnx.size; omega) _).trans hb2
            have ha2 := ha.below hnx2 ha.lt
            have lk2 := ha2.lookup law42' ekN_inj Try.underlying40 (zero57 _) (key42N (a := k) (by omega)) true
            unfold ekN evV at lk2
            simp only [if_true] at lk2
            rw [show (aget La k).isSome = hasA La k from rfl, show (aget La k).getD (0, 0) = valA La k from rfl] at lk2
            clear hcb
            cases hasa : hasA La k with
            | false =>
              rw [hasa] at lk2
              go_wp2_with (at_builtin; refine wpList_append_run hap rfl _ _ rfl rfl rfl rfl ?_)
              go_roundg (m - (k + 1))
              case measure => have := HG.out; omega
              case rel =>
                refine ⟨k + 1, .slice (some ⟨g, 0, none⟩) ((freeK Lu k).length + 1) cap, Lh, by omega, rfl, by go_num, ?_, hnx2.alloc hnx2.size _⟩
                simp only [ofK, freeK, grpK, hasu, hasa, if_false, Bool.false_eq_true]
                exact hal2.alloc _
            | true =>
              rw [hasa] at lk2
              go_wp2_with (at_builtin; refine wpList_append_run hap rfl _ _ rfl rfl rfl rfl ?_)
              have hsz2 : (w2.setCell ⟨w.heap.size + 1 + 1, 1, none⟩ (.slice (some ⟨g, 0, none⟩) ((freeK Lu k).length + 1) cap)).heap.size = w2.heap.size := by simp [World.setCell]
              clear lk lk2 hap p1 fz1 c1 halb hb2 hu1 ha1 ha2 hal hnx
              generalize (w2.setCell ⟨w.heap.size + 1 + 1, 1, none⟩ (.slice (some ⟨g, 0, none⟩) ((freeK Lu k).length + 1) cap)) = W2 at *
              generalize w2.heap.size = L2 at *
              subst hsz2
              obtain ⟨l, hl⟩ := hva k
              have hgl := grpK_length Lu La k (valA La k)
              have hal4 := ((hal2.alloc (.cells #[.int .u8 (valA La k).1, .int .u16 (valA La k).2] 57)).alloc (.cells #[.int .u32 k] 42)).drew
              have v3 : (W2.alloc (.cells #[.int .u8 (valA La k).1, .int .u16 (valA La k).2] 57)).heap[W2.heap.size]? = some (.cells #[.int .u8 (valA La k).1, .int .u16 (valA La k).2] 57) := (MapKept.heap_alloc _ _).1
              have v4 : ((W2.alloc (.cells #[.int .u8 (valA La k).1, .int .u16 (valA La k).2] 57)).alloc (.cells #[.int .u32 k] 42)).heap[W2.heap.size + 1]? = some (.cells #[.int .u32 k] 42) := by
                have := (MapKept.heap_alloc (W2.alloc (.cells #[.int .u8 (valA La k).1, .int .u16 (valA La k).2] 57)) (.cells #[.int .u32 k] 42)).1
                simp only [sz] at this
                exact this
              have v5 : ((W2.alloc (.cells #[.int .u8 (valA La k).1, .int .u16 (valA La k).2] 57)).alloc (.cells #[.int .u32 k] 42)).heap[W2.heap.size]? = some (.cells #[.int .u8 (valA La k).1, .int .u16 (valA La k).2] 57) := by
                rw [Below.heap_alloc _ _ _ (by simp)]
                exact v3
              obtain ⟨ea, en, ec, st, w5, g', cap', w6, w7, Lh', hent, happ, hst, hal7, b5, b6, b7, hfr⟩ := hal4.hold_step (c := W2.heap.size + 1) (x := k) (v := valA La k) (by show w.heap.size ≤ ((W2.alloc _).alloc _).heap.size; simp only [sz]; have := hnx2.size; omega) (by unfold World.cell?; rw [show (World.drew ((W2.alloc (.cells #[.int .u8 (valA La k).1, .int .u16 (valA La k).2] 57)).alloc (.cells #[.int .u32 k] 42))).heap[W2.heap.size + 1]? = _ from v4]; rfl) hl (by omega)
              obtain ⟨q5, q6, q7⟩ := hfr W2.heap.size (by show W2.heap.size < ((W2.alloc _).alloc _).heap.size; simp only [sz]; omega) (fun cur hc => by rw [show (World.drew ((W2.alloc (.cells #[.int .u8 (valA La k).1, .int .u16 (valA La k).2] 57)).alloc (.cells #[.int .u32 k] 42))).heap[W2.heap.size]? = _ from v5] at hc; simp at hc) (by have := hal2.hold.lt; omega)
              obtain ⟨r5, r6, r7⟩ := hfr (w.heap.size + 1 + 1) hal4.blk.lt (fun cur hc => by obtain ⟨c, hb, _⟩ := hal4.blk; rw [hb] at hc; simp at hc) (by omega)
              unfold evV at hent
              have e0 : (W2.alloc (.cells #[.int .u8 (valA La k).1, .int .u16 (valA La k).2] 57)).cell? ⟨w.heap.size + 1 + 1, 4, none⟩ = some (.map (some (w.heap.size + 1))) := (hal2.alloc _).blk.cell (i := 4) (by omega)
              have e5 : w5.cell? ⟨w.heap.size + 1 + 1, 4, none⟩ = some (.map (some (w.heap.size + 1))) := (hal4.blk.of_block r5).cell (i := 4) (by omega)
              have e6 : w6.cell? ⟨w.heap.size + 1 + 1, 4, none⟩ = some (.map (some (w.heap.size + 1))) := (hal4.blk.of_block r6).cell (i := 4) (by omega)
              have e7 : w7.cell? ⟨w.heap.size + 1 + 1, 4, none⟩ = some (.map (some (w.heap.size + 1))) := (hal4.blk.of_block r7).cell (i := 4) (by omega)
              have e4 : ((W2.alloc (.cells #[.int .u8 (valA La k).1, .int .u16 (valA La k).2] 57)).alloc (.cells #[.int .u32 k] 42)).cell? ⟨w.heap.size + 1 + 1, 4, none⟩ = some (.map (some (w.heap.size + 1))) := hal4.blk.cell (i := 4) (by omega)
              have s5 : w5.heap[W2.heap.size]? = some (.cells #[.int .u8 (valA La k).1, .int .u16 (valA La k).2] 57) := q5.trans v5
              have s6 : w6.heap[W2.heap.size]? = some (.cells #[.int .u8 (valA La k).1, .int .u16 (valA La k).2] 57) := q6.trans v5
              have s7 : w7.heap[W2.heap.size]? = some (.cells #[.int .u8 (valA La k).1, .int .u16 (valA La k).2] 57) := q7.trans v5
              have t50 : w5.cell? ⟨W2.heap.size, 0, none⟩ = some (.int .u8 (valA La k).1) := by simp [World.cell?, s5]
              have t51 : w5.cell? ⟨W2.heap.size, 1, none⟩ = some (.int .u16 (valA La k).2) := by simp [World.cell?, s5]
              have t60 : w6.cell? ⟨W2.heap.size, 0, none⟩ = some (.int .u8 (valA La k).1) := by simp [World.cell?, s6]
              have t61 : w6.cell? ⟨W2.heap.size, 1, none⟩ = some (.int .u16 (valA La k).2) := by simp [World.cell?, s6]
              have t70 : w7.cell? ⟨W2.heap.size, 0, none⟩ = some (.int .u8 (valA La k).1) := by simp [World.cell?, s7]
              have t71 : w7.cell? ⟨W2.heap.size, 1, none⟩ = some (.int .u16 (valA La k).2) := by simp [World.cell?, s7]
              have t40 : ((W2.alloc (.cells #[.int .u8 (valA La k).1, .int .u16 (valA La k).2] 57)).alloc (.cells #[.int .u32 k] 42)).cell? ⟨W2.heap.size, 0, none⟩ = some (.int .u8 (valA La k).1) := by simp only [World.cell?, v5]; rfl
              have t41 : ((W2.alloc (.cells #[.int .u8 (valA La k).1, .int .u16 (valA La k).2] 57)).alloc (.cells #[.int .u32 k] 42)).cell? ⟨W2.heap.size, 1, none⟩ = some (.int .u16 (valA La k).2) := by simp only [World.cell?, v5]; rfl
              clear s5 s6 s7 v3 v4 v5 q5 q6 q7 r5 r6 r7 hfr sz
              go_region_held3 (fun w' => w'.cell? ⟨w.heap.size + 1 + 1, 4, none⟩ = some (.map (some (w.heap.size + 1))) ∧ w'.cell? ⟨W2.heap.size, 0, none⟩ = some (.int .u8 (valA La k).1) ∧ w'.cell? ⟨W2.heap.size, 1, none⟩ = some (.int .u16 (valA La k).2)) (go_keep)
                ((refine step_append_run happ (by rfl) _ _ (by rfl) (by rfl) (by rfl) (by rfl) ?_))
              go_wp2
              go_roundg (m - (k + 1))
              case measure => have := HG.out; omega
              case rel =>
                refine ⟨k + 1, .slice (some ⟨g, 0, none⟩) ((freeK Lu k).length + 1) cap, Lh', by omega, rfl, by go_num, ?_, ((hnx2.alloc hnx2.size _).alloc (by have := hnx2.size; simp; omega) _).drew.trans b7⟩
                simp only [ofK, freeK, grpK, hasu, hasa, if_false, if_true, Bool.false_eq_true]
                exact hal7
        · go_wp2
          go_ret
          obtain rfl : k = m := by omega
          exact ⟨_, _, _, _, _, _, _, rfl, HN.out, hal, hnx⟩
    · have hqk := hk q hq
      have hpr : w.heap.size + 1 + 1 ≠ w.heap.size + 1 + 1 + 1 := by omega
      have hblk1 := hblk.of_block (hbut.block _ hpr)
      have hmo1 := hmo.of_block (hbut.block w.heap.size (by omega))
      have hmh1 := hmh.of_block (hbut.block (w.heap.size + 1) (by omega))
      have hnx1 : Below w.heap.size w w1 := hnx.trans ⟨hbut.os, hbut.tape, hbut.output, by rw [hbut.size]; exact Nat.le_refl _, fun i hi => hbut.block i (by omega)⟩
      have c5 : w1.cell? ⟨w.heap.size + 1 + 1, 5, none⟩ = some (.int .u32 m) := hblk1.cell (i := 5) (by omega)
      have f5 := hblk1.frozen 5
      unfold ekN evV at hrun hen
      clear hblk hmo hmh hnx hR hbut
      have hcl := unvis_lt Lu vis q hq hvq
      have HC : Hid ((Lu.filter (fun p => !(decide (p.1 = q.1) || vis p.1))).length < (Lu.filter (fun p => !vis p.1)).length) := hcl
      clear hcl
      go_wp2
      · have hlt : m < q.1 + 1 := by omega
        go_roundg ((Lu.filter (fun p => !(decide (p.1 = q.1) || vis p.1))).length)
        case measure => have := HC.out; omega
        case rel =>
          refine ⟨fun x => decide (x = q.1) || vis x, q.1 + 1, Nat.le_refl _, hR1.of_blocks (Below.heap_setCell _ _ _ _ (by have := hu.lt; show mu ≠ w.heap.size + 1 + 1; omega)) (Below.heap_setCell _ _ _ _ (by show w.heap.size + 1 + 1 + 1 ≠ w.heap.size + 1 + 1; omega)), hmo1.setCell _ _ (by show w.heap.size ≠ w.heap.size + 1 + 1; omega), hmh1.setCell _ _ (by show w.heap.size + 1 ≠ w.heap.size + 1 + 1; omega), (hblk1.setCell (i := 5) _).congr (fun j hj => ?_), hnx1.setCell (by show w.heap.size ≤ w.heap.size + 1 + 1; omega) _, by omega, by have := hA.out.1; omega, fun p hp hv => ?_, .inr ⟨q, hq, rfl⟩⟩
          · match j, hj with
            | 0, _ => rfl
            | 1, _ => rfl
            | 2, _ => rfl
            | 3, _ => rfl
            | 4, _ => rfl
            | 5, _ => simp [acells]
          · by_cases e : p.1 = q.1
            · omega
            · have := hA.out.2.1 p hp (by simpa [e] using hv)
              omega
      · have hge : q.1 + 1 ≤ m := by omega
        go_roundg ((Lu.filter (fun p => !(decide (p.1 = q.1) || vis p.1))).length)
        case measure => have := HC.out; omega
        case rel =>
          refine ⟨fun x => decide (x = q.1) || vis x, m, Nat.le_refl _, hR1.of_blocks (Below.heap_setCell _ _ _ _ (by have := hu.lt; show mu ≠ w.heap.size + 1 + 1; omega)) (Below.heap_setCell _ _ _ _ (by show w.heap.size + 1 + 1 + 1 ≠ w.heap.size + 1 + 1; omega)), hmo1.setCell _ _ (by show w.heap.size ≠ w.heap.size + 1 + 1; omega), hmh1.setCell _ _ (by show w.heap.size + 1 ≠ w.heap.size + 1 + 1; omega), (hblk1.setCell (i := 5) _).congr (fun j hj => ?_), hnx1.setCell (by show w.heap.size ≤ w.heap.size + 1 + 1; omega) _, by omega, hA.out.1, fun p hp hv => ?_, hA.out.2.2⟩
          · match j, hj with
            | 0, _ => rfl
            | 1, _ => rfl
            | 2, _ => rfl
            | 3, _ => rfl
            | 4, _ => rfl
            | 5, _ => rfl
          · by_cases e : p.1 = q.1
            · omega
            · exact hA.out.2.1 p hp (by simpa [e] using hv)
end Go.Proofs.Qxb6602988a
