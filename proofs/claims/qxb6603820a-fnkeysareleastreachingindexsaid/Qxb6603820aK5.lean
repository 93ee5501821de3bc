import Derived.Test.Qxb6603820aK4
namespace Go.Proofs.Qxb6603820a
open Go.RowKit Go.WideShapes
set_option linter.unusedVariables false
set_option linter.unusedSimpArgs false

def bcells (l e : Value) : Nat → Value
  | 0 => l | _ => e
/-- keys' own memory: the box, the keys, the stack -/
structure KAt (w wr : World) (B n : Nat) (lv ev : Value) (K : Nat → Int) (sv : Value) (S : List Nat) : Prop where
  box : RowB wr B 32 2 (bcells lv ev)
  row : RowB wr (B + 1) 3 n (fun v => .int .i64 (K v))
  st : OwnI wr (B + 2) sv S
  be : Below B w wr
  sz : B + 2 ≤ wr.heap.size
section
variable {w wr wx : World} {B n : Nat} {lv ev sv : Value} {K : Nat → Int} {S : List Nat}
theorem KAt.alloc (h : KAt w wr B n lv ev K sv S) (o : Obj) : KAt w (wr.alloc o) B n lv ev K sv S :=
  ⟨h.box.alloc _, h.row.alloc _, h.st.below ((Below.refl _ _).alloc (Nat.le_refl _) _) (Nat.le_refl _), h.be.alloc (by have := h.sz; omega) _, by have := h.sz; simp; omega⟩
theorem KAt.put (h : KAt w wr B n lv ev K sv S) (i : Nat) (x : Int) : KAt w (wr.setCell ⟨B + 1, i, none⟩ (.int .i64 x)) B n lv ev (fun v => if v = i then x else K v) sv S :=
  ⟨h.box.setOther _ _ (by show B ≠ B + 1; omega), (h.row.setCell (i := i) _).congr (fun j hj => by by_cases e : j = i <;> simp [e]), h.st.setOther _ (by omega), h.be.setCell (by show B ≤ B + 1; omega) _, by simp [World.setCell]; exact h.sz⟩
theorem KAt.push (h : KAt w wr B n lv ev K sv S) {x c : Nat} (hc : wr.cell? ⟨c, 0, none⟩ = some (.int .i64 (x : Int))) (hl : S.length ≤ 1048576) :
    ∃ g cap' w1, (Builtin.append_ #[26, 26] 26 #[sv, .slice (some ⟨c, 0, none⟩) 1 1]).run Try.prog wr = .ok (.slice (some ⟨g, 0, none⟩) (S.length + 1) cap') w1 ∧ KAt w w1 B n lv ev K (.slice (some ⟨g, 0, none⟩) (S.length + 1) cap') (S ++ [x]) := by
  obtain ⟨g, cap', w1, hr, ho, hg⟩ := app26 wr (B + 2) sv S x c h.st hc hl h.sz
  have hb : Below (B + 2) wr w1 := (Below.refl _ _).grown hg h.sz (fun k hk => (World.ownsRow.lt h.st k hk).1)
  exact ⟨g, cap', w1, hr, h.box.below hb (by omega), h.row.below hb (by omega), ho, h.be.trans (hb.mono (by omega)), Nat.le_trans h.sz hb.size⟩
theorem KAt.stack (h : KAt w wr B n lv ev K sv S) {sv' : Value} {S' : List Nat} (hs : OwnI wr (B + 2) sv' S') : KAt w wr B n lv ev K sv' S' := ⟨h.box, h.row, hs, h.be, h.sz⟩
end
theorem int1 (w : World) (x : Int) : (w.alloc (.cells #[.int .i64 x] 3)).cell? ⟨w.heap.size, 0, none⟩ = some (.int .i64 x) := by
  unfold World.cell?
  rw [(MapKept.heap_alloc w (.cells #[.int .i64 x] 3)).1]
  rfl

set_option maxHeartbeats 2000000 in
theorem keys13 (la ea : Option Addr) (n lc en ec : Nat) (ra : Nat → Option Addr) (RL rc : Nat → Nat) (X : Nat → Nat → Int) (w : World) (hn : n ≤ 65536) (hne : n ≤ en) (hR : ∀ i, i < en → RL i ≤ 131072) (he : TabAt w ea en ra RL rc X) (hfit : ∀ j, j < n → ∀ k, k < RL j → 0 ≤ X j k ∧ X j k < n) :
    Calls Try.prog 13 #[.agg #[.slice la n lc, .slice ea en ec]] w fun e w' => ∃ (g : Nat) (K : Nat → Int), e = .returned (.slice (some ⟨g, 0, none⟩) n n) ∧ RowB w' g 3 n (fun v => .int .i64 (K v)) ∧ (∀ v, v < n → Least (Edge n RL X) v (K v)) ∧ w.heap.size ≤ g ∧ Below w.heap.size w w' := by
  have hE : Hid (∀ u v, Edge n RL X u v → u < n ∧ v < n) := fun u v ⟨h1, k, h2, h3⟩ => ⟨h1, by have := hfit u h1 k h2; omega⟩
  have hFit : Hid (∀ j, j < n → ∀ k, k < RL j → 0 ≤ X j k ∧ X j k < n) := hfit
  have hRR : Hid (∀ i, i < n → RL i ≤ 131072) := fun i hi => hR i (by omega)
  have hNE : Hid (n ≤ en) := hne
  clear hfit hR hne
  have hmk := make26 n (by omega)
  go_enter Try.func13, Try.ntmps13
  go_wp2
  clear hmk
  have hbox : RowB (w.alloc (.cells #[.slice la n lc, .slice ea en ec] 32)) w.heap.size 32 2 (bcells (.slice la n lc) (.slice ea en ec)) := ⟨_, (MapKept.heap_alloc _ _).1, rfl, fun i hi => by
    match i, hi with
    | 0, _ => rfl
    | 1, _ => rfl⟩
  have hrow0 := rowB_new (w.alloc (.cells #[.slice la n lc, .slice ea en ec] 32)) 3 n (fun _ => .int .i64 0)
  have sz : (w.alloc (.cells #[.slice la n lc, .slice ea en ec] 32)).heap.size = w.heap.size + 1 := by simp
  rw [sz] at hrow0
  have hK0 : KAt w ((w.alloc (.cells #[.slice la n lc, .slice ea en ec] 32)).alloc (.cells (rowOf n (fun _ => .int .i64 0)) 3)) w.heap.size n (.slice la n lc) (.slice ea en ec) (fun _ => 0) (.slice none 0 0) [] := ⟨hbox.alloc _, hrow0, World.ownsRow_nil _ _ _ _, ((Below.refl _ _).alloc (Nat.le_refl _) _).alloc (by simp) _, by simp⟩
  clear hbox hrow0 sz
  generalize (w.alloc (.cells #[.slice la n lc, .slice ea en ec] 32)).alloc (.cells (rowOf n (fun _ => .int .i64 0)) 3) = W0 at *
  go_loopg [16] n (fun g iv wr => ∃ k : Nat, k ≤ n ∧ g = n - k ∧ iv = .int .i64 k ∧ KAt w wr w.heap.size n (.slice la n lc) (.slice ea en ec) (fun v => if v < k then -1 else 0) (.slice none 0 0) [])
  case atStart => exact ⟨0, Nat.zero_le _, rfl, rfl, ⟨hK0.box, hK0.row.congr (fun i hi => by simp), hK0.st, hK0.be, hK0.sz⟩⟩
  case round =>
    clear hK0
    obtain ⟨k, hk, hgk, rfl, hK⟩ := hrel
    have HG : Hid (gk = n - k) := hgk
    clear hgk
    by_cases hlt : k < n
    · have c1 := hK.row.cell (i := k) hlt
      rw [if_neg (by omega)] at c1
      have f1 := hK.row.frozen k
      go_wp2
      go_roundg (n - (k + 1))
      case measure => have := HG.out; omega
      case rel =>
        have hp := hK.put k (-1)
        refine ⟨k + 1, by omega, rfl, by go_num, hp.box, hp.row.congr (fun i hi => ?_), hp.st, hp.be, hp.sz⟩
        by_cases e1 : i = k
        · simp [e1]
        · by_cases e2 : i < k
          · simp [e1, e2, show i < k + 1 by omega]
          · simp [e1, e2, show ¬ i < k + 1 by omega]
    · obtain rfl : k = n := by omega
      have hK1 : KAt w wr w.heap.size k (.slice la k lc) (.slice ea en ec) (fun _ => -1) (.slice none 0 0) [] := ⟨hK.box, hK.row.congr (fun i hi => by simp [hi]), hK.st, hK.be, hK.sz⟩
      clear hK HG hlt
      go_wp2
      go_loopg [5, 25] k (fun g sv iv wr => ∃ (i : Nat) (K : Nat → Int) (S : List Nat), i ≤ k ∧ g = k - i ∧ iv = .int .i64 i ∧ KAt w wr w.heap.size k (.slice la k lc) (.slice ea en ec) K sv S ∧ Aside (KS (Edge k RL X) k i K))
      case atStart => exact ⟨0, fun _ => -1, [], Nat.zero_le _, rfl, rfl, hK1, KS.zero _ _⟩
      case round =>
        clear hK1
        obtain ⟨i, K, S, hi, hgi, rfl, hK, hKS⟩ := hrel
        have HGi : Hid (gk = k - i) := hgi
        clear hgi
        obtain ⟨sa, sc, rfl⟩ := hK.st.form
        by_cases hlt : i < k
        · have c1 := hK.row.cell (i := i) hlt
          by_cases hpos : 0 ≤ K i
          · have HP : Hid (0 ≤ K i) := hpos
            go_wp2
            go_roundg (k - (i + 1))
            case measure => have := HGi.out; omega
            case rel => exact ⟨i + 1, K, S, by omega, rfl, by go_num, hK, hKS.out.skip hlt HP.out⟩
          · have hDS0 := DS.start hKS.out hlt hpos
            have HD0 : Hid (DS (Edge k RL X) k i (fun v => if v = i then (i : Int) else K v) [i] [i] (fun _ => False)) := hDS0
            clear hDS0
            have f1 := hK.row.frozen i
            have hK1 := hK.put i i
            have hK2 := (hK1.stack hK1.st.drop).alloc (.cells #[.int .i64 i] 3)
            obtain ⟨g, cap', w1, hap, hK3⟩ := hK2.push (x := i) (int1 _ _) (by simp)
            have hsz : (wr.setCell ⟨w.heap.size + 1, i, none⟩ (.int .i64 (i : Int))).heap.size = wr.heap.size := by simp [World.setCell]
            rw [hsz] at hap
            have hap' : (Builtin.append_ #[26, 26] 26 #[.slice sa 0 sc, .slice (some ⟨wr.heap.size, 0, none⟩) 1 1]).run Try.prog ((wr.setCell ⟨w.heap.size + 1, i, none⟩ (.int .i64 (i : Int))).alloc (.cells #[.int .i64 (i : Int)] 3)) = .ok (.slice (some ⟨g, 0, none⟩) 1 cap') w1 := hap
            have hK4 : KAt w w1 w.heap.size k (.slice la k lc) (.slice ea en ec) (fun v => if v = i then (i : Int) else K v) (.slice (some ⟨g, 0, none⟩) 1 cap') [i] := hK3
            clear hK1 hK2 hK3 hap hsz hK hKS
            go_wp2_with (at_builtin; refine wpList_append_run hap' rfl _ _ rfl rfl rfl rfl ?_)
            clear hap' c1 f1 hpos
            go_loopg [5] (2 * (k - 1) + 1) (fun g sv wx => ∃ (K : Nat → Int) (Vs S : List Nat), g = 2 * (k - Vs.length) + S.length ∧ g ≤ 2 * k + 1 ∧ KAt w wx w.heap.size k (.slice la k lc) (.slice ea en ec) K sv S ∧ Aside (DS (Edge k RL X) k i K Vs S (fun _ => False)))
            case atStart => exact ⟨_, [i], [i], rfl, by omega, hK4, HD0.out⟩
            case round =>
              clear hK4 HD0
              obtain ⟨K, Vs, S, hg3, hgl, hK, hD⟩ := hrel
              rcases snoc_cases S with rfl | ⟨S', j, rfl⟩
              · obtain ⟨sa, sc, rfl⟩ := hK.st.form
                clear hg3 hgl
                go_wp2
                go_roundg (k - (i + 1))
                case measure => have := HGi.out; omega
                case rel => exact ⟨i + 1, K, [], by omega, rfl, by go_num, hK, DS.done hE.out hD.out⟩
              · have hl : (S' ++ [j]).length = S'.length + 1 := by simp
                obtain ⟨sa, sc, hsv⟩ := hK.st.form
                rw [hl] at hsv hg3
                subst hsv
                obtain ⟨⟨sg, rfl, ctop⟩, _, hscap, hst⟩ := hK.st.pop
                obtain ⟨hDp, hjV, hjk⟩ := hD.out.pop
                have HDp : Hid (DS (Edge k RL X) k i K Vs S' (fun u => u = j)) := hDp
                have HjV : Hid (j ∈ Vs) := hjV
                have HG3 : Hid (gk = 2 * (k - Vs.length) + (S'.length + 1)) := hg3
                have hsl : S'.length ≤ 131073 := by omega
                clear hDp hjV hg3 hD hl
                have cb : wr.cell? ⟨w.heap.size, 1, none⟩ = some (.slice ea en ec) := hK.box.cell (i := 1) (by omega)
                obtain ⟨b, off, rfl, hb, hc⟩ := he.head j (by have := hNE.out; omega)
                have c2 := (hK.be.cell (p := ⟨b, off + j, none⟩) hb).trans hc
                have hrow := he.rows j (by have := hNE.out; omega)
                have hrl := hRR.out j hjk
                have hjen : j < en := by have := hNE.out; omega
                generalize ra j = rj at hrow c2
                clear hc
                have hK1 := hK.stack hst
                go_wp2
                clear ctop cb c2
                go_loopg [5, 62] (RL j) (fun g sv iv wy => ∃ (t : Nat) (K : Nat → Int) (Vs' S : List Nat), t ≤ RL j ∧ g = RL j - t ∧ iv = .int .i64 t ∧ KAt w wy w.heap.size k (.slice la k lc) (.slice (some ⟨b, off, none⟩) en ec) K sv S ∧ S.length ≤ 131073 ∧ Aside (2 * (k - Vs'.length) + S.length ≤ 2 * (k - Vs.length) + S'.length ∧ DS (Edge k RL X) k i K Vs' S (fun u => u = j) ∧ j ∈ Vs' ∧ ∀ t', t' < t → 0 ≤ K (X j t').toNat))
                case atStart => exact ⟨0, K, Vs, S', Nat.zero_le _, rfl, rfl, hK1, hsl, Nat.le_refl _, HDp.out, HjV.out, fun t' ht' => by omega⟩
                case round =>
                  clear hK1 hK hst hscap HjV HDp hsl
                  obtain ⟨t, K, Vs', S, ht, hgt, rfl, hK, hSl, hA⟩ := hrel
                  have HT : Hid (gk = RL j - t) := hgt
                  clear hgt
                  obtain ⟨sa, sc, rfl⟩ := hK.st.form
                  by_cases hlt2 : t < RL j
                  · obtain ⟨b2, off2, rfl, hb2, hc2⟩ := hrow t hlt2
                    have d0 := (hK.be.cell (p := ⟨b2, off2 + t, none⟩) hb2).trans hc2
                    obtain ⟨e, he1, he2⟩ : ∃ e : Nat, X j t = e ∧ e < k := by
                      have := hFit.out j hjk t hlt2
                      exact ⟨(X j t).toNat, by omega, by omega⟩
                    rw [he1] at d0
                    have HE1 : Hid (X j t = e) := he1
                    have d1 := hK.row.cell (i := e) he2
                    clear he1 hc2
                    by_cases hpe : 0 ≤ K e
                    · have HP : Hid (0 ≤ K e) := hpe
                      go_wp2
                      go_roundg (RL j - (t + 1))
                      case measure => have := HT.out; omega
                      case rel =>
                        refine ⟨t + 1, K, Vs', S, by omega, rfl, by go_num, hK, hSl, hA.out.1, hA.out.2.1, hA.out.2.2.1, fun t' ht' => ?_⟩
                        by_cases e' : t' = t
                        · rw [e', HE1.out]; exact HP.out
                        · exact hA.out.2.2.2 t' (by omega)
                    · have HM : Hid (DS (Edge k RL X) k i (fun v => if v = e then (i : Int) else K v) (e :: Vs') (S ++ [e]) (fun u => u = j) ∧ ¬ e ∈ Vs') := hA.out.2.1.mark hA.out.2.2.1 he2 ⟨hjk, t, hlt2, HE1.out⟩ hpe
                      have hS2 : S.length + 1 ≤ 131073 ∧ 2 * (k - (Vs'.length + 1)) + (S.length + 1) ≤ 2 * (k - Vs.length) + S'.length := by
                        have h1 := nodup_bound k (e :: Vs') HM.out.1.nd HM.out.1.lt
                        simp at h1
                        have h2 := hA.out.1
                        have h3 := HG3.out
                        constructor
                        · omega
                        · omega
                      have HS2 : Hid (S.length + 1 ≤ 131073 ∧ 2 * (k - (Vs'.length + 1)) + (S.length + 1) ≤ 2 * (k - Vs.length) + S'.length) := hS2
                      clear hS2
                      have f1 := hK.row.frozen e
                      have hK1 := hK.put e i
                      have hK2 := hK1.alloc (.cells #[.int .i64 (e : Int)] 3)
                      obtain ⟨g, cap', w1, hap, hK3⟩ := hK2.push (x := e) (int1 _ _) (by omega)
                      have hsz : (wr.setCell ⟨w.heap.size + 1, e, none⟩ (.int .i64 (i : Int))).heap.size = wr.heap.size := by simp [World.setCell]
                      rw [hsz] at hap
                      clear hK1 hK2 hsz
                      go_wp2_with (at_builtin; refine wpList_append_run hap rfl _ _ rfl rfl rfl rfl ?_)
                      go_roundg (RL j - (t + 1))
                      case measure => have := HT.out; omega
                      case rel =>
                        refine ⟨t + 1, _, e :: Vs', S ++ [e], by omega, rfl, by go_num, hK3, by simpa using HS2.out.1, by simpa using HS2.out.2, HM.out.1, by simp [hA.out.2.2.1], fun t' ht' => ?_⟩
                        show 0 ≤ (if (X j t').toNat = e then (i : Int) else K (X j t').toNat)
                        split
                        · omega
                        · rename_i hne
                          by_cases e' : t' = t
                          · rw [e', HE1.out] at hne; simp at hne
                          · exact hA.out.2.2.2 t' (by omega)
                  · obtain rfl : t = RL j := by omega
                    have HC : Hid (DS (Edge k RL X) k i K Vs' S (fun _ => False)) := hA.out.2.1.close (fun e he hE' => by
                      obtain ⟨_, k', hk', hx⟩ := hE'
                      have := hA.out.2.2.2 k' hk'
                      rw [hx] at this
                      simpa using this)
                    go_wp2
                    go_roundg (2 * (k - Vs'.length) + S.length)
                    case measure => have := HG3.out; have := hA.out.1; omega
                    case rel => exact ⟨K, Vs', S, rfl, by have := HG3.out; have := hA.out.1; omega, hK, HC.out⟩
        · obtain rfl : i = k := by omega
          go_wp2
          go_ret
          exact ⟨_, K, rfl, hK.row, hKS.out.done, by omega, hK.be⟩
end Go.Proofs.Qxb6603820a
